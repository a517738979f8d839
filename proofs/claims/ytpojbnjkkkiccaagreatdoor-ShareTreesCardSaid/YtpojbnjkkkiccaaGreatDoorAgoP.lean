
import Derived.Test.YtpojbnjkkkiccaaGreatDoorShT
import Derived.Test.YtpojbnjkkkiccaaGreatDoorAgoW
set_option linter.all false
namespace Go.Sh
open Go Go.Ago
structure aH where
 kind:Int
 text:ζ
 ord:Bool
 ks:Sl
 kl:ε
 kg:Nat
 is:Sl
 il:ε
 ig:Nat
def aH.enc (x:aH):δ:=[vi x.kind,.string x.text,.bool x.ord,aA x.ks,aA x.is]
theorem aH.jS (x:aH):x.enc.length=5:=rfl
structure HX where
 node:Int
 parent:Int
 entry:Int
 frm:Int
 to:Int
 kf:Int
 kt:Int
 alias:Bool
 whole:Bool
def HX.enc (x:HX):δ:=[vi x.node,vi x.parent,vi x.entry,vi x.frm,vi x.to,vi x.kf,vi x.kt,.bool x.alias,.bool x.whole]
structure Ow where
 b:Nat
 g:Nat
 base:Nat
 e:κ
 src:ζ
 at':Int
 fmt:Int
 source:ζ
 Ue:Sl
 ng:Nat
 nodes:List aH
 root:Int
 ssl:Sl
 sg:Nat
 qJ:List HX
 err:Int
 off:Int
def Ow.enc (S:Ow):δ:=[.string S.src,vi S.at',vi S.fmt,.string S.source,aA S.Ue,vi S.root,aA S.ssl,aE,vi S.err,vi S.off]
def Ow.air (S:Ow):δ:=S.nodes.flatMap aH.enc
inductive Slot where
 |main|nodes|qJ|key (i:Nat)|item (i:Nat)
def Ow.jo (S:Ow):Slot->Nat
 |.main=>S.g
 |.nodes=>S.ng
 |.qJ=>S.sg
 |.key i=>(match S.nodes[i]? with|some x=>x.kg|none=>0)
 |.item i=>(match S.nodes[i]? with|some x=>x.ig|none=>0)
def Ow.fp (S:Ow):Nat->Prop:=λg=>∃s,g=S.jo s
structure StC (h:ai) (S:Ow) (c nc:δ):Prop where
 wf:WF h
 ar:h.get S.b=some (.cells c S.g S.base S.e)
 g0:S.g≠0
 nodes:uq h S.Ue 5 av nc S.ng
 apE:nc.length=S.nodes.length*5
 qJ:uq h S.ssl 9 RJ (S.qJ.flatMap HX.enc) S.sg
 keys:∀(i:Nat) (x:aH),S.nodes[i]?=some x->uq h x.ks 1 al (x.kl.map vi) x.kg
 items:∀(i:Nat) (x:aH),S.nodes[i]?=some x->uq h x.is 1 al (x.il.map vi) x.ig
 yJ:∀s t,s≠t->S.jo s=S.jo t->S.jo s=0
abbrev St (h:ai)(S:Ow):Prop:=StC h S S.enc S.air
variable {h h':ai}{S S':Ow}{c nc:δ}
def Ow.con (S:Ow):Nat×Nat×Nat×κ×ζ×Int×ζ×Int:=(S.b,S.g,S.base,S.e,S.src,S.fmt,S.source,S.root)
structure Zr (h:ai) (S:Ow) (h':ai) (S':Ow):Prop where
 con:S'.con=S.con
 fr:Fr S.fp h h'
 fp:∀s,S'.jo s=0\/(∃t,S'.jo s=S.jo t)\/h.next<S'.jo s
def adM {c}{o}{v}(ho:o<c.length):aM c o [v]=c.set o v:=by
 rw[aoA,By ho];simp[aM]
theorem StC.ld (st:StC h S c nc){l}{o}:h.ld l S.b o=(match c[o]? with|some v=>D6 l v|none=>none):=by
 unfold ai.ld;rw[st.ar];grind
def Zr.b (f:Zr h S h' S'):S'.b=S.b:=alZ (·.1) f.con
def Zr.src (f:Zr h S h' S'):S'.src=S.src:=alZ (·.2.2.2.2.1) f.con
def Zr.root (f:Zr h S h' S'):S'.root=S.root:=alZ (·.2.2.2.2.2.2.2) f.con
def Zr.fmt (f:Zr h S h' S'):S'.fmt=S.fmt:=alZ (·.2.2.2.2.2.1) f.con
def Zr.source (f:Zr h S h' S'):S'.source=S.source:=alZ (·.2.2.2.2.2.2.1) f.con
theorem nM (a:Addr) n:a.plus n=⟨a.block,a.off+n,none⟩:=rfl
end Go.Sh
