
import Derived.Test.YthcljaholofonaaGreatDoorShT
import Derived.Test.YthcljaholofonaaGreatDoorAgoW
set_option linter.all false
namespace Go.Sh
open Go Go.Ago
structure bh where
 kind:Int
 text:ζ
 ord:Bool
 ks:Sl
 kl:ε
 kg:Nat
 is:Sl
 il:ε
 ig:Nat
def bh.enc (x:bh):δ:=[vi x.kind,.string x.text,.bool x.ord,aA x.ks,aA x.is]
theorem bh.pI (x:bh):x.enc.length=5:=rfl
structure EI where
 node:Int
 parent:Int
 entry:Int
 frm:Int
 to:Int
 kf:Int
 kt:Int
 alias:Bool
 whole:Bool
def EI.enc (x:EI):δ:=[vi x.node,vi x.parent,vi x.entry,vi x.frm,vi x.to,vi x.kf,vi x.kt,.bool x.alias,.bool x.whole]
theorem EI.pI (x:EI):x.enc.length=9:=rfl
structure OT where
 b:Nat
 g:Nat
 base:Nat
 e:κ
 src:ζ
 at':Int
 fmt:Int
 source:ζ
 Uu:Sl
 ng:Nat
 nodes:List bh
 root:Int
 ssl:Sl
 sg:Nat
 sy:List EI
 err:Int
 off:Int
def OT.enc (S:OT):δ:=[.string S.src,vi S.at',vi S.fmt,.string S.source,aA S.Uu,vi S.root,aA S.ssl,aI,vi S.err,vi S.off]
def OT.ajk (S:OT):δ:=S.nodes.flatMap bh.enc
inductive Slot where
 |main|nodes|sy|key (i:Nat)|item (i:Nat)
def OT.jU (S:OT):Slot->Nat
 |.main=>S.g
 |.nodes=>S.ng
 |.sy=>S.sg
 |.key i=>(match S.nodes[i]? with|some x=>x.kg|none=>0)
 |.item i=>(match S.nodes[i]? with|some x=>x.ig|none=>0)
def OT.fp (S:OT):Nat->Prop:=λg=>∃s,g=S.jU s
structure StC (h:aj) (S:OT) (c nc:δ):Prop where
 wf:WF h
 au:h.get S.b=some (.cells c S.g S.base S.e)
 g0:S.g≠0
 nodes:nv h S.Uu 5 ar nc S.ng
 arh:nc.length=S.nodes.length*5
 sy:nv h S.ssl 9 R6 (S.sy.flatMap EI.enc) S.sg
 keys:∀(i:Nat) (x:bh),S.nodes[i]?=some x->nv h x.ks 1 an (x.kl.map vi) x.kg
 items:∀(i:Nat) (x:bh),S.nodes[i]?=some x->nv h x.is 1 an (x.il.map vi) x.ig
 xB:∀s t,s≠t->S.jU s=S.jU t->S.jU s=0
abbrev St (h:aj)(S:OT):Prop:=StC h S S.enc S.ajk
variable {h h':aj}{S S':OT}{c nc:δ}
def OT.con (S:OT):Nat×Nat×Nat×κ×ζ×Int×ζ×Int:=(S.b,S.g,S.base,S.e,S.src,S.fmt,S.source,S.root)
structure Z3 (h:aj) (S:OT) (h':aj) (S':OT):Prop where
 con:S'.con=S.con
 fr:Fr S.fp h h'
 fp:∀s,S'.jU s=0\/(∃t,S'.jU s=S.jU t)\/h.next<S'.jU s
def aeO {c}{o}{v}(ho:o<c.length):aR c o [v]=c.set o v:=by
 rw[aqc,By ho];simp[aR]
def StC.ld (st:StC h S c nc){l}{o}:h.ld l S.b o=(match c[o]? with|some v=>D9 l v|none=>none):=by
 unfold aj.ld;rw[st.au];grind
def Z3.b (f:Z3 h S h' S'):S'.b=S.b:=an1 (·.1) f.con
def Z3.src (f:Z3 h S h' S'):S'.src=S.src:=an1 (·.2.2.2.2.1) f.con
def Z3.root (f:Z3 h S h' S'):S'.root=S.root:=an1 (·.2.2.2.2.2.2.2) f.con
def Z3.fmt (f:Z3 h S h' S'):S'.fmt=S.fmt:=an1 (·.2.2.2.2.2.1) f.con
def Z3.source (f:Z3 h S h' S'):S'.source=S.source:=an1 (·.2.2.2.2.2.2.1) f.con
theorem gQ (a:Addr) n:a.plus n=⟨a.block,a.off+n,none⟩:=rfl
end Go.Sh
