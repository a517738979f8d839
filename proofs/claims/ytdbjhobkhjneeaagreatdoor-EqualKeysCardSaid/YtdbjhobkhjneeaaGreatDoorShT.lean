
import Derived.Test.YtdbjhobkhjneeaaGreatDoorAgoI
import Derived.Test.YtdbjhobkhjneeaaGreatDoorProg
set_option linter.all false
namespace Go.Sh
open Go Go.Ago
abbrev ak (b:Nat):Addr:=⟨b,0,none⟩
abbrev li:uN:=.int .i64
abbrev aw:Ty:=.one (.int .i64)
abbrev pX:Ty:=.one .str
abbrev jF:Ty:=.one .bool
abbrev cB:Ty:=.one .sl
abbrev aG:Ty:=.one .ak
abbrev vS:Ty:=.one .ptr
abbrev tG:Ty:=.one .raw
abbrev tyM:Ty:=.one .mp
abbrev vi (n:Int):ο:=.int .i64 n
abbrev aC (s:Sl):ο:=.slice s.a s.len s.cap
abbrev pY:Sl:=⟨none,0,0⟩
abbrev aI:ο:=.slice none 0 0
abbrev au:μ:=3
abbrev xC:μ:=4
abbrev gU:μ:=5
abbrev eD:μ:=9
abbrev ah:μ:=24
abbrev aJ:μ:=39
abbrev az:μ:=41
abbrev Qc:μ:=0
abbrev aE:μ:=45
abbrev bB:μ:=53
abbrev fR:μ:=59
abbrev Bz:μ:=62
abbrev ql:μ:=68
abbrev fC:μ:=69
abbrev oS:μ:=72
abbrev eV:μ:=73
abbrev cG:μ:=75
abbrev dB:μ:=81
abbrev yS:μ:=90
abbrev JZ:μ:=110
abbrev aF:μ:=114
abbrev bz:μ:=118
abbrev bP:μ:=128
abbrev wh:μ:=163
abbrev Uk:μ:=166
abbrev xc:μ:=169
abbrev tq:μ:=199
abbrev HU:μ:=207
abbrev CJ:μ:=218
abbrev rP:FuncId:=19
abbrev pF:FuncId:=35
abbrev jm:FuncId:=51
abbrev jO:FuncId:=189
abbrev pG:FuncId:=38
abbrev kZ:FuncId:=62
abbrev jP:FuncId:=63
abbrev rQ:FuncId:=44
abbrev oH:FuncId:=45
abbrev pH:FuncId:=106
abbrev dS:FuncId:=107
abbrev lS (a:Addr)(o:Nat){β:Type}(f:Sl->M β):M β:=sh (e9 .sl (a.plus o)) f
abbrev lI (a:Addr)(o:Nat){β:Type}(f:Int->M β):M β:=sh (e9 li (a.plus o)) f
abbrev lT (a:Addr)(o:Nat){β:Type}(f:ζ->M β):M β:=sh (e9 .str (a.plus o)) f
abbrev lB (a:Addr)(o:Nat){β:Type}(f:Bool->M β):M β:=sh (e9 .bool (a.plus o)) f
abbrev eS (a:Addr){β:Type}(f:Sl->M β):M β:=sh (e9 .sl a) f
abbrev eI (a:Addr){β:Type}(f:Int->M β):M β:=sh (e9 li a) f
abbrev eT (a:Addr){β:Type}(f:ζ->M β):M β:=sh (e9 .str a) f
abbrev eB (a:Addr){β:Type}(f:Bool->M β):M β:=sh (e9 .bool a) f
abbrev iX (s:Sl)(i:Int)(z:Nat){β:Type}(f:Addr->M β):M β:=sh (mT s i z) f
abbrev gL (a:Addr){β:Type}(f:Sl×Int->M β):M β:=sh (bY [.sl,li] a) f
abbrev nL (a:Addr){β:Type}(f:Int×ζ×Bool×Sl×Sl->M β):M β:=sh (bY [li,.str,.bool,.sl,.sl] a) f
abbrev sN (a:Addr)(vs:δ){β:Type}(f:Unit->M β):M β:=sh (sU a vs) f
abbrev nW (t:μ)(vs:δ){β:Type}(f:Nat->M β):M β:=sh (iR none t vs) f
abbrev rG:=List.range'
def bT:Nat->Nat->η->η
 |0,_,a=>a
 |f+1,k,a=>cond (Nat.ble k 1) a (bT f (k/2) (k%2::a))
def bL (k:Nat):η:=bT 99 k []
class Fl (F:Type) where
 fl:F
instance {α:Type}:Fl (M α):=⟨AS⟩
instance {a:Type} {F:Type} [Fl F]:Fl (a->F):=⟨λ_=>Fl.fl⟩
abbrev uC (F:Type):=F->Nat->F
def lp {F:Type}[Fl F](B:F->Nat->F):Nat->F
 |0=>Fl.fl
 |n+1=>B (lp B n) n
def dr0(i:Nat):Option (List (Nat×η)):=none
def Ω (l:η):List (Nat×η):=l.map λi=>(i,[])
def Κ (i k:Nat)(l:List (Nat×η))(r:Option (List (Nat×η))):=cond (Nat.beq i k) (some l) r
end Go.Sh
