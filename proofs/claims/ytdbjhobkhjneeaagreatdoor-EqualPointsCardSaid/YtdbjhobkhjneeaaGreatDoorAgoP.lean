
import Derived.Test.YtdbjhobkhjneeaaGreatDoorShT
import Derived.Test.YtdbjhobkhjneeaaGreatDoorAgoW
set_option linter.all false
namespace Go.Sh
open Go Go.Ago
structure cm where
 kind:Int
 text:ζ
 ord:Bool
 ks:Sl
 kl:ε
 kg:Nat
 is:Sl
 il:ε
 ig:Nat
def cm.enc (x:cm):δ:=[vi x.kind,.string x.text,.bool x.ord,aC x.ks,aC x.is]
theorem cm.xj (x:cm):x.enc.length=5:=rfl
structure F6 where
 node:Int
 parent:Int
 entry:Int
 frm:Int
 to:Int
 kf:Int
 kt:Int
 alias:Bool
 whole:Bool
def F6.enc (x:F6):δ:=[vi x.node,vi x.parent,vi x.entry,vi x.frm,vi x.to,vi x.kf,vi x.kt,.bool x.alias,.bool x.whole]
structure MX where
 b:Nat
 g:Nat
 base:Nat
 e:μ
 src:ζ
 at':Int
 fmt:Int
 source:ζ
 Sk:Sl
 ng:Nat
 nodes:List cm
 root:Int
 ssl:Sl
 sg:Nat
 qf:List F6
 err:Int
 off:Int
def MX.enc (S:MX):δ:=[.string S.src,vi S.at',vi S.fmt,.string S.source,aC S.Sk,vi S.root,aC S.ssl,aI,vi S.err,vi S.off]
def MX.agR (S:MX):δ:=S.nodes.flatMap cm.enc
inductive Slot where
 |main|nodes|qf|key (i:Nat)|item (i:Nat)
def MX.iL (S:MX):Slot->Nat
 |.main=>S.g
 |.nodes=>S.ng
 |.qf=>S.sg
 |.key i=>(match S.nodes[i]? with|some x=>x.kg|none=>0)
 |.item i=>(match S.nodes[i]? with|some x=>x.ig|none=>0)
def MX.fp (S:MX):Nat->Prop:=λg=>∃s,g=S.iL s
structure StC (h:aj) (S:MX) (c nc:δ):Prop where
 wf:WF h
 au:h.get S.b=some (.cells c S.g S.base S.e)
 g0:S.g≠0
 nodes:uU h S.Sk 5 ar nc S.ng
 anS:nc.length=S.nodes.length*5
 qf:uU h S.ssl 9 Qx (S.qf.flatMap F6.enc) S.sg
 keys:∀(i:Nat) (x:cm),S.nodes[i]?=some x->uU h x.ks 1 av (x.kl.map vi) x.kg
 items:∀(i:Nat) (x:cm),S.nodes[i]?=some x->uU h x.is 1 av (x.il.map vi) x.ig
 wY:∀s t,s≠t->S.iL s=S.iL t->S.iL s=0
abbrev St (h:aj)(S:MX):Prop:=StC h S S.enc S.agR
variable {h h':aj}{S S':MX}{c nc:δ}
def MX.con (S:MX):Nat×Nat×Nat×μ×ζ×Int×ζ×Int:=(S.b,S.g,S.base,S.e,S.src,S.fmt,S.source,S.root)
structure Yb (h:aj) (S:MX) (h':aj) (S':MX):Prop where
 con:S'.con=S.con
 fr:Fr S.fp h h'
 fp:∀s,S'.iL s=0\/(∃t,S'.iL s=S.iL t)\/h.next<S'.iL s
def acx {c}{o}{v}(ho:o<c.length):aU c o [v]=c.set o v:=by
 rw[anj,By ho];simp[aU]
theorem StC.ld (st:StC h S c nc){l}{o}:h.ld l S.b o=(match c[o]? with|some v=>Cv l v|none=>none):=by
 unfold aj.ld;rw[st.au];grind
def Yb.b (f:Yb h S h' S'):S'.b=S.b:=akL (·.1) f.con
def Yb.src (f:Yb h S h' S'):S'.src=S.src:=akL (·.2.2.2.2.1) f.con
def Yb.root (f:Yb h S h' S'):S'.root=S.root:=akL (·.2.2.2.2.2.2.2) f.con
def Yb.fmt (f:Yb h S h' S'):S'.fmt=S.fmt:=akL (·.2.2.2.2.2.1) f.con
def Yb.source (f:Yb h S h' S'):S'.source=S.source:=akL (·.2.2.2.2.2.2.1) f.con
theorem nf (a:Addr) n:a.plus n=⟨a.block,a.off+n,none⟩:=rfl
end Go.Sh
