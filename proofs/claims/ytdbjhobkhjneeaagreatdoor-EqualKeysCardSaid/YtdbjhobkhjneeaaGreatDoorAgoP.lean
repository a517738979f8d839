
import Derived.Test.YtdbjhobkhjneeaaGreatDoorShT
import Derived.Test.YtdbjhobkhjneeaaGreatDoorAgoW
set_option linter.all false
namespace Go.Sh
open Go Go.Ago
structure cT where
 kind:Int
 text:ζ
 ord:Bool
 ks:Sl
 kl:ε
 kg:Nat
 is:Sl
 il:ε
 ig:Nat
def cT.enc (x:cT):δ:=[vi x.kind,.string x.text,.bool x.ord,aC x.ks,aC x.is]
theorem cT.xd (x:cT):x.enc.length=5:=rfl
structure FW where
 node:Int
 parent:Int
 entry:Int
 frm:Int
 to:Int
 kf:Int
 kt:Int
 alias:Bool
 whole:Bool
def FW.enc (x:FW):δ:=[vi x.node,vi x.parent,vi x.entry,vi x.frm,vi x.to,vi x.kf,vi x.kt,.bool x.alias,.bool x.whole]
structure MI where
 b:Nat
 g:Nat
 base:Nat
 e:μ
 src:ζ
 at':Int
 fmt:Int
 source:ζ
 RQ:Sl
 ng:Nat
 nodes:List cT
 root:Int
 ssl:Sl
 sg:Nat
 pZ:List FW
 err:Int
 off:Int
def MI.enc (S:MI):δ:=[.string S.src,vi S.at',vi S.fmt,.string S.source,aC S.RQ,vi S.root,aC S.ssl,aI,vi S.err,vi S.off]
def MI.agD (S:MI):δ:=S.nodes.flatMap cT.enc
inductive Slot where
 |main|nodes|pZ|key (i:Nat)|item (i:Nat)
def MI.iL (S:MI):Slot->Nat
 |.main=>S.g
 |.nodes=>S.ng
 |.pZ=>S.sg
 |.key i=>(match S.nodes[i]? with|some x=>x.kg|none=>0)
 |.item i=>(match S.nodes[i]? with|some x=>x.ig|none=>0)
def MI.fp (S:MI):Nat->Prop:=λg=>∃s,g=S.iL s
structure StC (h:aj) (S:MI) (c nc:δ):Prop where
 wf:WF h
 ar:h.get S.b=some (.cells c S.g S.base S.e)
 g0:S.g≠0
 nodes:uQ h S.RQ 5 az nc S.ng
 anH:nc.length=S.nodes.length*5
 pZ:uQ h S.ssl 9 Qc (S.pZ.flatMap FW.enc) S.sg
 keys:∀(i:Nat) (x:cT),S.nodes[i]?=some x->uQ h x.ks 1 au (x.kl.map vi) x.kg
 items:∀(i:Nat) (x:cT),S.nodes[i]?=some x->uQ h x.is 1 au (x.il.map vi) x.ig
 wU:∀s t,s≠t->S.iL s=S.iL t->S.iL s=0
abbrev St (h:aj)(S:MI):Prop:=StC h S S.enc S.agD
variable {h h':aj}{S S':MI}{c nc:δ}
def MI.con (S:MI):Nat×Nat×Nat×μ×ζ×Int×ζ×Int:=(S.b,S.g,S.base,S.e,S.src,S.fmt,S.source,S.root)
structure XL (h:aj) (S:MI) (h':aj) (S':MI):Prop where
 con:S'.con=S.con
 fr:Fr S.fp h h'
 fp:∀s,S'.iL s=0\/(∃t,S'.iL s=S.iL t)\/h.next<S'.iL s
def acg {c}{o}{v}(ho:o<c.length):aV c o [v]=c.set o v:=by
 rw[am2,By ho];simp[aV]
def StC.ld (st:StC h S c nc){l}{o}:h.ld l S.b o=(match c[o]? with|some v=>Cq l v|none=>none):=by
 unfold aj.ld;rw[st.ar];grind
def XL.b (f:XL h S h' S'):S'.b=S.b:=akn (·.1) f.con
def XL.src (f:XL h S h' S'):S'.src=S.src:=akn (·.2.2.2.2.1) f.con
def XL.root (f:XL h S h' S'):S'.root=S.root:=akn (·.2.2.2.2.2.2.2) f.con
def XL.fmt (f:XL h S h' S'):S'.fmt=S.fmt:=akn (·.2.2.2.2.2.1) f.con
def XL.source (f:XL h S h' S'):S'.source=S.source:=akn (·.2.2.2.2.2.2.1) f.con
theorem mX (a:Addr) n:a.plus n=⟨a.block,a.off+n,none⟩:=rfl
end Go.Sh
