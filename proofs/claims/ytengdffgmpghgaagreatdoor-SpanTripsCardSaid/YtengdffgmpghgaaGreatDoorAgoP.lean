
import Derived.Test.YtengdffgmpghgaaGreatDoorShT
import Derived.Test.YtengdffgmpghgaaGreatDoorAgoW
set_option linter.all false
namespace Go.Sh
open Go Go.Ago
structure gP where
 kind:Int
 text:ζ
 ord:Bool
 ks:Sl
 kl:ε
 kg:Nat
 is:Sl
 il:ε
 ig:Nat
def gP.enc (x:gP):δ:=[vi x.kind,.string x.text,.bool x.ord,aM x.ks,aM x.is]
theorem gP.kB (x:gP):x.enc.length=5:=rfl
structure aK where
 node:Int
 parent:Int
 entry:Int
 xG:Int
 to:Int
 kf:Int
 kt:Int
 alias:Bool
 whole:Bool
def aK.enc (x:aK):δ:=[vi x.node,vi x.parent,vi x.entry,vi x.xG,vi x.to,vi x.kf,vi x.kt,.bool x.alias,.bool x.whole]
theorem aK.kB (x:aK):x.enc.length=9:=rfl
structure Ev where
 b:Nat
 g:Nat
 base:Nat
 e:κ
 src:ζ
 at':Int
 fmt:Int
 source:ζ
 dh:Sl
 ng:Nat
 nodes:List gP
 root:Int
 cz:Sl
 sg:Nat
 gQ:List aK
 err:Int
 off:Int
def Ev.enc (S:Ev):δ:=[.string S.src,vi S.at',vi S.fmt,.string S.source,aM S.dh,vi S.root,aM S.cz,bF,vi S.err,vi S.off]
def Ev.afu (S:Ev):δ:=S.nodes.flatMap gP.enc
inductive Slot where
 |main|nodes|gQ|key (i:Nat)|item (i:Nat)
def Ev.eJ (S:Ev):Slot->Nat
 |.main=>S.g
 |.nodes=>S.ng
 |.gQ=>S.sg
 |.key i=>(match S.nodes[i]? with|some x=>x.kg|none=>0)
 |.item i=>(match S.nodes[i]? with|some x=>x.ig|none=>0)
def Ev.fp (S:Ev):Nat->Prop:=λg=>∃s,g=S.eJ s
structure RJ (h:ab) (S:Ev) (c nc:δ):Prop where
 wf:WF h
 av:h.get S.b=some (.cells c S.g S.base S.e)
 g0:S.g≠0
 nodes:wq h S.dh 5 aW nc S.ng
 afv:nc.length=S.nodes.length*5
 gQ:wq h S.cz 9 bJ (S.gQ.flatMap aK.enc) S.sg
 keys:∀(i:Nat) (x:gP),S.nodes[i]?=some x->wq h x.ks 1 ar (x.kl.map vi) x.kg
 items:∀(i:Nat) (x:gP),S.nodes[i]?=some x->wq h x.is 1 ar (x.il.map vi) x.ig
 uo:∀s t,s≠t->S.eJ s=S.eJ t->S.eJ s=0
abbrev St (h:ab)(S:Ev):Prop:=RJ h S S.enc S.afu
variable {h h':ab}{S S':Ev}{c nc:δ}
theorem RJ.le (st:RJ h S c nc)(s:Slot):S.eJ s<=h.next:=by
 cases s with
 |main=>exact st.wf.eJ _ _ _ _ _ st.av
 |nodes=>exact st.nodes.le
 |gQ=>exact st.gQ.le
 |key i=>
  simp only[Ev.eJ];split
  .rename_i x hx;exact (st.keys i x hx).le
  .omega
 |item i=>
  simp only[Ev.eJ];split
  .rename_i x hx;exact (st.items i x hx).le
  .omega
theorem RJ.fr (st:RJ h S c nc){X:Nat->Prop}(f:Fr X h h')(hx:∀s,X (S.eJ s)->S.eJ s=0):RJ h' S c nc:=by
 refine⟨f.wf,f.cells _ _ _ _ _ st.av (hx .main),st.g0,st.nodes.fr f (hx .nodes),st.afv,st.gQ.fr f (hx .gQ),λi x hi=>?_,λi x hi=>?_,st.uo⟩
 .refine (st.keys i x hi).fr f ?_;have:=hx (.key i);simpa only[Ev.eJ,hi] using this
 .refine (st.items i x hi).fr f ?_;have:=hx (.item i);simpa only[Ev.eJ,hi] using this
def Ev.RL (S:Ev):Nat×Nat×Nat×κ×ζ×Int×ζ×Int:=(S.b,S.g,S.base,S.e,S.src,S.fmt,S.source,S.root)
structure Ew (h:ab) (S:Ev) (h':ab) (S':Ev):Prop where
 RL:S'.RL=S.RL
 fr:Fr S.fp h h'
 fp:∀s,S'.eJ s=0\/(∃t,S'.eJ s=S.eJ t)\/h.next<S'.eJ s
theorem Ew.refl (hw:WF h):Ew h S h S:=⟨rfl,Fr.refl hw,λs=>.inr (.inl ⟨s,rfl⟩)⟩
theorem Ew.trans {h1 h2:ab}{S1 S2:Ev}(hw:WF h)(a:Ew h S h1 S1)(b:Ew h1 S1 h2 S2):Ew h S h2 S2:=by
 refine⟨b.RL.trans a.RL,a.fr.trans hw b.fr λg hg h0=>?_,λs=>?_⟩
 .obtain⟨s,rfl⟩:=hg;rcases a.fp s with h3|⟨t,h3⟩|h3
  .exact absurd h3 h0
  .exact .inl ⟨t,h3⟩
  .exact .inr h3
 .rcases b.fp s with h3|⟨t,h3⟩|h3
  .exact .inl h3
  .rcases a.fp t with h4|⟨u,h4⟩|h4
   .exact .inl (h3.trans h4)
   .exact .inr (.inl ⟨u,h3.trans h4⟩)
   .exact .inr (.inr (by omega))
  .exact .inr (.inr (Nat.lt_of_le_of_lt a.fr.next h3))
theorem Ew.other (f:Ew h S h' S'){X:Nat->Prop}{h1:ab}(hw:WF h)(g1:Fr X h1 h)(hw1:WF h1)(hx:∀s,S.eJ s=0\/X (S.eJ s)\/h1.next<S.eJ s):Fr X h1 h':=
 g1.trans hw1 f.fr λg hg h0=>by
  obtain⟨s,rfl⟩:=hg;rcases hx s with h3|h3|h3
  .exact absurd h3 h0
  .exact .inl h3
  .exact .inr h3
theorem RM {c:δ}{o:Nat}{v:ξ}(ho:o<c.length):bh c o [v]=c.set o v:=by
 rw[aj1,By ho];simp[bh]
theorem RJ.put (st:RJ h S c nc){o:Nat}{v:ξ}(ho:o<c.length)(hv:eB v=true){Q:Unit->ab->Prop}
  (hq:∀h',RJ h' S (c.set o v) nc->Fr (·=S.g) h h'->Q () h'):Wp (bD ⟨S.b,o,none⟩ [v]) h Q:=by
 rw[Jw];refine⟨c,S.g,S.base,S.e,st.av,st.g0,by simp;omega,by simp[hv],?_⟩;have f:=Fr.sW (c:=c.set o v) (base:=S.base) (e:=S.e) st.wf st.g0 st.av;rw[RM ho];have hx:∀s,s≠Slot.main->S.eJ s=S.g->S.eJ s=0:=λs hs he=>st.uo s .main hs he;refine hq _ ⟨f.wf,xD,st.g0,st.nodes.fr f (hx .nodes (by simp)),st.afv,st.gQ.fr f (hx .gQ (by simp)),λi x hi=>?_,λi x hi=>?_,st.uo⟩ f
 .refine (st.keys i x hi).fr f ?_;have:=hx (.key i) (by simp);simpa only[Ev.eJ,hi] using this
 .refine (st.items i x hi).fr f ?_;have:=hx (.item i) (by simp);simpa only[Ev.eJ,hi] using this
theorem RJ.ld (st:RJ h S c nc){l:eD}{o:Nat}:h.ld l S.b o=(match c[o]? with|some v=>AX l v|none=>none):=by
 unfold ab.ld;rw[st.av];simp only;generalize c[o]?=z;cases z<;>rfl
theorem RJ.as (st:RJ h S c nc)(e1:S'.b=S.b)(e2:S'.g=S.g)(e3:S'.base=S.base)(e4:S'.e=S.e)(e5:S'.dh=S.dh)(e6:S'.ng=S.ng)(e7:S'.nodes=S.nodes)(e8:S'.cz=S.cz)(e9:S'.sg=S.sg)(e10:S'.gQ=S.gQ):RJ h S' c nc:=by
 have hg:∀s,S'.eJ s=S.eJ s:=λs=>by cases s<;>simp only[Ev.eJ,e2,e6,e7,e9]
 exact⟨st.wf,by rw[e1,e2,e3,e4];exact st.av,by rw[e2];exact st.g0,by rw[e5,e6];exact st.nodes,by rw[e7];exact st.afv,by rw[e8,e9,e10];exact st.gQ,
  by rw[e7];exact st.keys,by rw[e7];exact st.items,λs t hs=>by rw[hg s,hg t];exact st.uo s t hs⟩
theorem Ew.b (f:Ew h S h' S'):S'.b=S.b:=ahv (·.1) f.RL
theorem Ew.src (f:Ew h S h' S'):S'.src=S.src:=ahv (·.2.2.2.2.1) f.RL
theorem Ew.root (f:Ew h S h' S'):S'.root=S.root:=ahv (·.2.2.2.2.2.2.2) f.RL
theorem Ew.fmt (f:Ew h S h' S'):S'.fmt=S.fmt:=ahv (·.2.2.2.2.2.1) f.RL
theorem Ew.source (f:Ew h S h' S'):S'.source=S.source:=ahv (·.2.2.2.2.2.2.1) f.RL
theorem Ew.one {s0:Slot}(hc:S'.RL=S.RL)(f:Fr (·=S.eJ s0) h h')(ho:∀s,s≠s0->S'.eJ s=S.eJ s\/S'.eJ s=0)(hn:S'.eJ s0=S.eJ s0\/S'.eJ s0=0\/h.next<S'.eJ s0)(hw:WF h):Ew h S h' S':=by
 refine⟨hc,f.mono hw λg hg _=>.inl ⟨s0,hg⟩,λs=>?_⟩;by_cases hs:s=s0
 .subst hs;rcases hn with h1|h1|h1
  .exact .inr (.inl ⟨_,h1⟩)
  .exact .inl h1
  .exact .inr (.inr h1)
 .rcases ho s hs with h1|h1
  .exact .inr (.inl ⟨_,h1⟩)
  .exact .inl h1
theorem St.pure (st:St h S)(f:Fr (λ_=>False) h h'):St h' S/\Ew h S h' S:=
 ⟨st.fr f (λ_ hx=>hx.elim),rfl,f.mono st.wf (λ_ hx _=>hx.elim),λs=>.inr (.inl ⟨s,rfl⟩)⟩
theorem mu (a:Addr)(n:Nat):a.plus n=⟨a.block,a.off+n,none⟩:=rfl
theorem Ew.two {h2 h3:ab}{s0 s1:Slot}(hw:WF h)(hc:S'.RL=S.RL)(f:Fr (·=S.eJ s0) h h2)(f2:Fr (·=S'.eJ s1) h2 h3)(hs:s1≠s0)(h1:S'.eJ s1=S.eJ s1)(ho:∀s,s≠s0->S'.eJ s=S.eJ s\/S'.eJ s=0)(hn:S'.eJ s0=S.eJ s0\/S'.eJ s0=0\/h.next<S'.eJ s0):Ew h S h3 S':=by
 refine⟨hc,(f.mono hw λg hg _=>.inl ⟨s0,hg⟩).trans hw f2 λg hg _=>.inl ⟨s1,by rw[hg,h1]⟩,λs=>?_⟩;by_cases hs:s=s0
 .subst hs;rcases hn with h1|h1|h1
  .exact .inr (.inl ⟨_,h1⟩)
  .exact .inl h1
  .exact .inr (.inr h1)
 .rcases ho s hs with h1|h1
  .exact .inr (.inl ⟨_,h1⟩)
  .exact .inl h1
end Go.Sh
