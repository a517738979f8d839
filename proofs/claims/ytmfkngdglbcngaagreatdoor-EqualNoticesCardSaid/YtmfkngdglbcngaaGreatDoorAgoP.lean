
import Derived.Test.YtmfkngdglbcngaaGreatDoorShT
import Derived.Test.YtmfkngdglbcngaaGreatDoorAgoW
set_option linter.all false
namespace Go.Sh
open Go Go.Ago
structure aY where
 kind:Int
 text:ζ
 ord:Bool
 ks:Sl
 kl:ε
 kg:Nat
 is:Sl
 il:ε
 ig:Nat
def aY.enc (x:aY):δ:=[vi x.kind,.string x.text,.bool x.ord,aH x.ks,aH x.is]
theorem aY.lh (x:aY):x.enc.length=5:=rfl
structure Ag where
 node:Int
 parent:Int
 entry:Int
 frm:Int
 to:Int
 kf:Int
 kt:Int
 alias:Bool
 whole:Bool
def Ag.enc (x:Ag):δ:=[vi x.node,vi x.parent,vi x.entry,vi x.frm,vi x.to,vi x.kf,vi x.kt,.bool x.alias,.bool x.whole]
theorem Ag.lh (x:Ag):x.enc.length=9:=rfl
structure Dz where
 b:Nat
 g:Nat
 base:Nat
 e:κ
 src:ζ
 at':Int
 fmt:Int
 source:ζ
 Ng:Sl
 ng:Nat
 nodes:List aY
 root:Int
 ssl:Sl
 sg:Nat
 iF:List Ag
 err:Int
 off:Int
def Dz.enc (S:Dz):δ:=[.string S.src,vi S.at',vi S.fmt,.string S.source,aH S.Ng,vi S.root,aH S.ssl,aT,vi S.err,vi S.off]
def Dz.acr (S:Dz):δ:=S.nodes.flatMap aY.enc
inductive Slot where
 |main|nodes|iF|key (i:Nat)|item (i:Nat)
def Dz.dY (S:Dz):Slot->Nat
 |.main=>S.g
 |.nodes=>S.ng
 |.iF=>S.sg
 |.key i=>(match S.nodes[i]? with|some x=>x.kg|none=>0)
 |.item i=>(match S.nodes[i]? with|some x=>x.ig|none=>0)
def Dz.fp (S:Dz):Nat->Prop:=λg=>∃s,g=S.dY s
structure P7 (h:af) (S:Dz) (c nc:δ):Prop where
 wf:WF h
 au:h.get S.b=some (.cells c S.g S.base S.e)
 g0:S.g≠0
 nodes:rL h S.Ng 5 az nc S.ng
 acs:nc.length=S.nodes.length*5
 iF:rL h S.ssl 9 NR (S.iF.flatMap Ag.enc) S.sg
 keys:∀(i:Nat) (x:aY),S.nodes[i]?=some x->rL h x.ks 1 av (x.kl.map vi) x.kg
 items:∀(i:Nat) (x:aY),S.nodes[i]?=some x->rL h x.is 1 av (x.il.map vi) x.ig
 sP:∀s t,s≠t->S.dY s=S.dY t->S.dY s=0
abbrev St (h:af)(S:Dz):Prop:=P7 h S S.enc S.acr
variable {h h':af}{S S':Dz}{c nc:δ}
theorem P7.le (st:P7 h S c nc)(s:Slot):S.dY s<=h.next:=by
 cases s with
 |main=>exact st.wf.dY _ _ _ _ _ st.au
 |nodes=>exact st.nodes.le
 |iF=>exact st.iF.le
 |key i=>
  simp only[Dz.dY];split
  .rename_i x hx;exact (st.keys i x hx).le
  .omega
 |item i=>
  simp only[Dz.dY];split
  .rename_i x hx;exact (st.items i x hx).le
  .omega
theorem P7.fr (st:P7 h S c nc){X:Nat->Prop}(f:Fr X h h')(hx:∀s,X (S.dY s)->S.dY s=0):P7 h' S c nc:=by
 refine⟨f.wf,f.cells _ _ _ _ _ st.au (hx .main),st.g0,st.nodes.fr f (hx .nodes),st.acs,st.iF.fr f (hx .iF),λi x hi=>?_,λi x hi=>?_,st.sP⟩
 .refine (st.keys i x hi).fr f ?_;have:=hx (.key i);simpa only[Dz.dY,hi] using this
 .refine (st.items i x hi).fr f ?_;have:=hx (.item i);simpa only[Dz.dY,hi] using this
def Dz.P8 (S:Dz):Nat×Nat×Nat×κ×ζ×Int×ζ×Int:=(S.b,S.g,S.base,S.e,S.src,S.fmt,S.source,S.root)
structure DA (h:af) (S:Dz) (h':af) (S':Dz):Prop where
 P8:S'.P8=S.P8
 fr:Fr S.fp h h'
 fp:∀s,S'.dY s=0\/(∃t,S'.dY s=S.dY t)\/h.next<S'.dY s
theorem DA.refl (hw:WF h):DA h S h S:=⟨rfl,Fr.refl hw,λs=>.inr (.inl ⟨s,rfl⟩)⟩
theorem DA.trans {h1 h2:af}{S1 S2:Dz}(hw:WF h)(a:DA h S h1 S1)(b:DA h1 S1 h2 S2):DA h S h2 S2:=by
 refine⟨b.P8.trans a.P8,a.fr.trans hw b.fr λg hg h0=>?_,λs=>?_⟩
 .obtain⟨s,rfl⟩:=hg;rcases a.fp s with h3|⟨t,h3⟩|h3
  .exact absurd h3 h0
  .exact .inl ⟨t,h3⟩
  .exact .inr h3
 .rcases b.fp s with h3|⟨t,h3⟩|h3
  .exact .inl h3
  .rcases a.fp t with h4|⟨u,h4⟩|h4
   .exact .inl (h3.trans h4)
   .exact .inr (.inl ⟨u,h3.trans h4⟩)
   .exact .inr (.inr (by omega))
  .exact .inr (.inr (agV a.fr.next h3))
theorem DA.other (f:DA h S h' S'){X:Nat->Prop}{h1:af}(hw:WF h)(g1:Fr X h1 h)(hw1:WF h1)(hx:∀s,S.dY s=0\/X (S.dY s)\/h1.next<S.dY s):Fr X h1 h':=
 g1.trans hw1 f.fr λg hg h0=>by
  obtain⟨s,rfl⟩:=hg;rcases hx s with h3|h3|h3
  .exact absurd h3 h0
  .exact .inl h3
  .exact .inr h3
theorem P9 {c:δ}{o:Nat}{v:ξ}(ho:o<c.length):bf c o [v]=c.set o v:=by
 rw[ag2,AT ho];simp[bf]
theorem P7.put (st:P7 h S c nc){o:Nat}{v:ξ}(ho:o<c.length)(hv:eZ v=true){Q:Unit->af->Prop}
  (hq:∀h',P7 h' S (c.set o v) nc->Fr (·=S.g) h h'->Q () h'):Wp (bF ⟨S.b,o,none⟩ [v]) h Q:=by
 rw[IF];refine⟨c,S.g,S.base,S.e,st.au,st.g0,by simp;omega,by simp[hv],?_⟩;have f:=Fr.sr (c:=c.set o v) (base:=S.base) (e:=S.e) st.wf st.g0 st.au;rw[P9 ho];have hx:∀s,s≠Slot.main->S.dY s=S.g->S.dY s=0:=λs hs he=>st.sP s .main hs he;refine hq _ ⟨f.wf,wX,st.g0,st.nodes.fr f (hx .nodes (by simp)),st.acs,st.iF.fr f (hx .iF (by simp)),λi x hi=>?_,λi x hi=>?_,st.sP⟩ f
 .refine (st.keys i x hi).fr f ?_;have:=hx (.key i) (by simp);simpa only[Dz.dY,hi] using this
 .refine (st.items i x hi).fr f ?_;have:=hx (.item i) (by simp);simpa only[Dz.dY,hi] using this
theorem P7.ld (st:P7 h S c nc){l:eN}{o:Nat}:h.ld l S.b o=(match c[o]? with|some v=>Al l v|none=>none):=by
 unfold af.ld;rw[st.au];simp only;generalize c[o]?=z;cases z<;>rfl
theorem P7.as (st:P7 h S c nc)(e1:S'.b=S.b)(e2:S'.g=S.g)(e3:S'.base=S.base)(e4:S'.e=S.e)(e5:S'.Ng=S.Ng)(e6:S'.ng=S.ng)(e7:S'.nodes=S.nodes)(e8:S'.ssl=S.ssl)(e9:S'.sg=S.sg)(e10:S'.iF=S.iF):P7 h S' c nc:=by
 have hg:∀s,S'.dY s=S.dY s:=λs=>by cases s<;>simp only[Dz.dY,e2,e6,e7,e9]
 exact⟨st.wf,by rw[e1,e2,e3,e4];exact st.au,by rw[e2];exact st.g0,by rw[e5,e6];exact st.nodes,by rw[e7];exact st.acs,by rw[e8,e9,e10];exact st.iF,
  by rw[e7];exact st.keys,by rw[e7];exact st.items,λs t hs=>by rw[hg s,hg t];exact st.sP s t hs⟩
theorem DA.b (f:DA h S h' S'):S'.b=S.b:=agw (·.1) f.P8
theorem DA.src (f:DA h S h' S'):S'.src=S.src:=agw (·.2.2.2.2.1) f.P8
theorem DA.root (f:DA h S h' S'):S'.root=S.root:=agw (·.2.2.2.2.2.2.2) f.P8
theorem DA.fmt (f:DA h S h' S'):S'.fmt=S.fmt:=agw (·.2.2.2.2.2.1) f.P8
theorem DA.source (f:DA h S h' S'):S'.source=S.source:=agw (·.2.2.2.2.2.2.1) f.P8
theorem DA.one {s0:Slot}(hc:S'.P8=S.P8)(f:Fr (·=S.dY s0) h h')(ho:∀s,s≠s0->S'.dY s=S.dY s\/S'.dY s=0)(hn:S'.dY s0=S.dY s0\/S'.dY s0=0\/h.next<S'.dY s0)(hw:WF h):DA h S h' S':=by
 refine⟨hc,f.mono hw λg hg _=>.inl ⟨s0,hg⟩,λs=>?_⟩;by_cases hs:s=s0
 .subst hs;rcases hn with h1|h1|h1
  .exact .inr (.inl ⟨_,h1⟩)
  .exact .inl h1
  .exact .inr (.inr h1)
 .rcases ho s hs with h1|h1
  .exact .inr (.inl ⟨_,h1⟩)
  .exact .inl h1
theorem St.pure (st:St h S)(f:Fr (λ_=>False) h h'):St h' S/\DA h S h' S:=
 ⟨st.fr f (λ_ hx=>hx.elim),rfl,f.mono st.wf (λ_ hx _=>hx.elim),λs=>.inr (.inl ⟨s,rfl⟩)⟩
theorem mr (a:Addr)(n:Nat):a.plus n=⟨a.block,a.off+n,none⟩:=rfl
theorem DA.two {h2 h3:af}{s0 s1:Slot}(hw:WF h)(hc:S'.P8=S.P8)(f:Fr (·=S.dY s0) h h2)(f2:Fr (·=S'.dY s1) h2 h3)(hs:s1≠s0)(h1:S'.dY s1=S.dY s1)(ho:∀s,s≠s0->S'.dY s=S.dY s\/S'.dY s=0)(hn:S'.dY s0=S.dY s0\/S'.dY s0=0\/h.next<S'.dY s0):DA h S h3 S':=by
 refine⟨hc,(f.mono hw λg hg _=>.inl ⟨s0,hg⟩).trans hw f2 λg hg _=>.inl ⟨s1,by rw[hg,h1]⟩,λs=>?_⟩;by_cases hs:s=s0
 .subst hs;rcases hn with h1|h1|h1
  .exact .inr (.inl ⟨_,h1⟩)
  .exact .inl h1
  .exact .inr (.inr h1)
 .rcases ho s hs with h1|h1
  .exact .inr (.inl ⟨_,h1⟩)
  .exact .inl h1
end Go.Sh
