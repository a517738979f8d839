
import Derived.Test.YtajnpfnomgjlaaaGreatDoorShT
import Derived.Test.YtajnpfnomgjlaaaGreatDoorAgoW
set_option linter.all false
namespace Go.Sh
open Go Go.Ago
structure bC where
 kind:Int
 text:ζ
 ord:Bool
 ks:Sl
 kl:ε
 kg:Nat
 is:Sl
 il:ε
 ig:Nat
def bC.enc (x:bC):δ:=[vi x.kind,.string x.text,.bool x.ord,aI x.ks,aI x.is]
theorem bC.nJ (x:bC):x.enc.length=5:=rfl
structure A6 where
 node:Int
 parent:Int
 entry:Int
 frm:Int
 to:Int
 kf:Int
 kt:Int
 alias:Bool
 whole:Bool
def A6.enc (x:A6):δ:=[vi x.node,vi x.parent,vi x.entry,vi x.frm,vi x.to,vi x.kf,vi x.kt,.bool x.alias,.bool x.whole]
theorem A6.nJ (x:A6):x.enc.length=9:=rfl
structure ED where
 b:Nat
 g:Nat
 base:Nat
 e:κ
 src:ζ
 at':Int
 fmt:Int
 source:ζ
 Oe:Sl
 ng:Nat
 nodes:List bC
 root:Int
 ssl:Sl
 sg:Nat
 jY:List A6
 err:Int
 off:Int
def ED.enc (S:ED):δ:=[.string S.src,vi S.at',vi S.fmt,.string S.source,aI S.Oe,vi S.root,aI S.ssl,aO,vi S.err,vi S.off]
def ED.aet (S:ED):δ:=S.nodes.flatMap bC.enc
inductive Slot where
 |main|nodes|jY|key (i:Nat)|item (i:Nat)
def ED.eI (S:ED):Slot->Nat
 |.main=>S.g
 |.nodes=>S.ng
 |.jY=>S.sg
 |.key i=>(match S.nodes[i]? with|some x=>x.kg|none=>0)
 |.item i=>(match S.nodes[i]? with|some x=>x.ig|none=>0)
def ED.fp (S:ED):Nat->Prop:=λg=>∃s,g=S.eI s
structure QL (h:ai) (S:ED) (c nc:δ):Prop where
 wf:WF h
 au:h.get S.b=some (.cells c S.g S.base S.e)
 g0:S.g≠0
 nodes:ue h S.Oe 5 aA nc S.ng
 aeu:nc.length=S.nodes.length*5
 jY:ue h S.ssl 9 O0 (S.jY.flatMap A6.enc) S.sg
 keys:∀(i:Nat) (x:bC),S.nodes[i]?=some x->ue h x.ks 1 an (x.kl.map vi) x.kg
 items:∀(i:Nat) (x:bC),S.nodes[i]?=some x->ue h x.is 1 an (x.il.map vi) x.ig
 uw:∀s t,s≠t->S.eI s=S.eI t->S.eI s=0
abbrev St (h:ai)(S:ED):Prop:=QL h S S.enc S.aet
variable {h h':ai}{S S':ED}{c nc:δ}
theorem QL.le (st:QL h S c nc) s:S.eI s<=h.next:=by
 cases s with
 |main=>exact st.wf.eI _ _ _ _ _ st.au
 |nodes=>exact st.nodes.le
 |jY=>exact st.jY.le
 |key i=>
  simp[ED.eI];split
  .rename_i x hx;exact (st.keys i x hx).le
  .omega
 |item i=>
  simp[ED.eI];split
  .rename_i x hx;exact (st.items i x hx).le
  .omega
theorem QL.fr (st:QL h S c nc){X}(f:Fr X h h')(hx:∀s,X (S.eI s)->S.eI s=0):QL h' S c nc:=by
 refine⟨f.wf,f.cells _ _ _ _ _ st.au (hx .main),st.g0,st.nodes.fr f (hx .nodes),st.aeu,st.jY.fr f (hx .jY),λi x hi=>?_,λi x hi=>?_,st.uw⟩
 .refine (st.keys i x hi).fr f ?_;have:=hx (.key i);simpa[ED.eI,hi] using this
 .refine (st.items i x hi).fr f ?_;have:=hx (.item i);simpa[ED.eI,hi] using this
def ED.QM (S:ED):Nat×Nat×Nat×κ×ζ×Int×ζ×Int:=(S.b,S.g,S.base,S.e,S.src,S.fmt,S.source,S.root)
structure Ep (h:ai) (S:ED) (h':ai) (S':ED):Prop where
 QM:S'.QM=S.QM
 fr:Fr S.fp h h'
 fp:∀s,S'.eI s=0\/(∃t,S'.eI s=S.eI t)\/h.next<S'.eI s
theorem Ep.refl (hw:WF h):Ep h S h S:=⟨rfl,Fr.refl hw,λs=>.inr (.inl ⟨s,rfl⟩)⟩
theorem Ep.trans {h1 h2 S1 S2}(hw:WF h)(a:Ep h S h1 S1)(b:Ep h1 S1 h2 S2):Ep h S h2 S2:=by
 refine⟨b.QM.trans a.QM,a.fr.trans hw b.fr λg hg h0=>?_,λs=>?_⟩
 .obtain⟨s,rfl⟩:=hg;rcases a.fp s with h3|⟨t,h3⟩|h3
  .exact absurd h3 h0
  .exact .inl ⟨t,h3⟩
  .exact .inr h3
 .rcases b.fp s with h3|⟨t,h3⟩|h3
  .exact .inl h3
  .rcases a.fp t with h4|⟨u,h4⟩|h4
   .exact .inl (h3.trans h4)
   .grind
   grind
  .exact .inr (.inr (ait a.fr.next h3))
theorem Ep.other (f:Ep h S h' S'){X h1}(hw:WF h)(g1:Fr X h1 h)(hw1:WF h1)(hx:∀s,S.eI s=0\/X (S.eI s)\/h1.next<S.eI s):Fr X h1 h':=
 g1.trans hw1 f.fr λg hg h0=>by
  obtain⟨s,rfl⟩:=hg
  grind
theorem QN {c o v}(ho:o<c.length):aU c o [v]=c.set o v:=by
 rw[ajh,By ho];simp[aU]
theorem QL.put (st:QL h S c nc){o v}(ho:o<c.length)(hv:eS v=true){Q}
  (hq:∀h',QL h' S (c.set o v) nc->Fr (·=S.g) h h'->Q () h'):Wp (bh ⟨S.b,o,none⟩ [v]) h Q:=by
 rw[Gs];refine⟨c,S.g,S.base,S.e,st.au,st.g0,by simp;omega,by simp[hv],?_⟩;have f:=Fr.qf (c:=c.set o v) (base:=S.base) (e:=S.e) st.wf st.g0 st.au;rw[QN ho];have hx:∀s,s≠Slot.main->S.eI s=S.g->S.eI s=0:=λs hs he=>st.uw s .main hs he;refine hq _ ⟨f.wf,xX,st.g0,st.nodes.fr f (hx .nodes (by simp)),st.aeu,st.jY.fr f (hx .jY (by simp)),λi x hi=>?_,λi x hi=>?_,st.uw⟩ f
 .refine (st.keys i x hi).fr f ?_;have:=hx (.key i) (by simp);simpa[ED.eI,hi] using this
 .refine (st.items i x hi).fr f ?_;have:=hx (.item i) (by simp);simpa[ED.eI,hi] using this
theorem QL.ld (st:QL h S c nc){l o}:h.ld l S.b o=(match c[o]? with|some v=>Ae l v|none=>none):=by
 unfold ai.ld;rw[st.au];grind
theorem QL.as (st:QL h S c nc)(e1:S'.b=S.b)(e2:S'.g=S.g)(e3:S'.base=S.base)(e4:S'.e=S.e)(e5:S'.Oe=S.Oe)(e6:S'.ng=S.ng)(e7:S'.nodes=S.nodes)(e8:S'.ssl=S.ssl)(e9:S'.sg=S.sg)(e10:S'.jY=S.jY):QL h S' c nc:=by
 have hg:∀s,S'.eI s=S.eI s:=λs=>by cases s<;>simp[ED.eI,e2,e6,e7,e9]
 exact⟨st.wf,by rw[e1,e2,e3,e4];exact st.au,by rw[e2];exact st.g0,by rw[e5,e6];exact st.nodes,by rw[e7];exact st.aeu,by rw[e8,e9,e10];exact st.jY,
  by rw[e7];exact st.keys,by rw[e7];exact st.items,λs t hs=>by rw[hg s,hg t];exact st.uw s t hs⟩
theorem Ep.b (f:Ep h S h' S'):S'.b=S.b:=ah7 (·.1) f.QM
theorem Ep.src (f:Ep h S h' S'):S'.src=S.src:=ah7 (·.2.2.2.2.1) f.QM
theorem Ep.root (f:Ep h S h' S'):S'.root=S.root:=ah7 (·.2.2.2.2.2.2.2) f.QM
theorem Ep.fmt (f:Ep h S h' S'):S'.fmt=S.fmt:=ah7 (·.2.2.2.2.2.1) f.QM
theorem Ep.source (f:Ep h S h' S'):S'.source=S.source:=ah7 (·.2.2.2.2.2.2.1) f.QM
theorem Ep.one {s0}(hc:S'.QM=S.QM)(f:Fr (·=S.eI s0) h h')(ho:∀s,s≠s0->S'.eI s=S.eI s\/S'.eI s=0)(hn:S'.eI s0=S.eI s0\/S'.eI s0=0\/h.next<S'.eI s0)(hw:WF h):Ep h S h' S':=by
 refine⟨hc,f.mono hw λg hg _=>.inl ⟨s0,hg⟩,λs=>?_⟩
 grind
theorem St.pure (st:St h S)(f:Fr (λ_=>False) h h'):St h' S/\Ep h S h' S:=
 ⟨st.fr f (λ_ hx=>hx.elim),rfl,f.mono st.wf (λ_ hx _=>hx.elim),λs=>.inr (.inl ⟨s,rfl⟩)⟩
theorem oO (a:Addr) n:a.plus n=⟨a.block,a.off+n,none⟩:=rfl
theorem Ep.two {h2 h3 s0 s1}(hw:WF h)(hc:S'.QM=S.QM)(f:Fr (·=S.eI s0) h h2)(f2:Fr (·=S'.eI s1) h2 h3)(hs:s1≠s0)(h1:S'.eI s1=S.eI s1)(ho:∀s,s≠s0->S'.eI s=S.eI s\/S'.eI s=0)(hn:S'.eI s0=S.eI s0\/S'.eI s0=0\/h.next<S'.eI s0):Ep h S h3 S':=by
 refine⟨hc,(f.mono hw λg hg _=>.inl ⟨s0,hg⟩).trans hw f2 λg hg _=>.inl ⟨s1,by rw[hg,h1]⟩,λs=>?_⟩
 grind
end Go.Sh
