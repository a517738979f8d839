
import Derived.Test.YtdbjhobkhjneeaaGreatDoorAgoI
import Derived.Test.YtdbjhobkhjneeaaGreatDoorProg
set_option linter.all false
namespace Go.Sh
open Go Go.Ago
abbrev ak (b:Nat):Addr:=⟨b,0,none⟩
abbrev li:uR:=.int .i64
abbrev az:Ty:=.one (.int .i64)
abbrev qe:Ty:=.one .str
abbrev jE:Ty:=.one .bool
abbrev cp:Ty:=.one .sl
abbrev aG:Ty:=.one .ak
abbrev vW:Ty:=.one .ptr
abbrev tL:Ty:=.one .raw
abbrev tyM:Ty:=.one .mp
abbrev vi (n:Int):ο:=.int .i64 n
abbrev aC (s:Sl):ο:=.slice s.a s.len s.cap
abbrev pH:Sl:=⟨none,0,0⟩
abbrev aI:ο:=.slice none 0 0
abbrev av:μ:=3
abbrev xH:μ:=4
abbrev gT:μ:=5
abbrev ep:μ:=9
abbrev ah:μ:=24
abbrev aJ:μ:=39
abbrev ar:μ:=41
abbrev Qx:μ:=0
abbrev aE:μ:=45
abbrev bz:μ:=53
abbrev fO:μ:=59
abbrev BC:μ:=62
abbrev qt:μ:=68
abbrev fu:μ:=69
abbrev oV:μ:=72
abbrev eV:μ:=73
abbrev cD:μ:=75
abbrev dA:μ:=81
abbrev yW:μ:=90
abbrev Kf:μ:=110
abbrev aF:μ:=114
abbrev bu:μ:=118
abbrev bN:μ:=128
abbrev wo:μ:=163
abbrev UG:μ:=166
abbrev xi:μ:=169
abbrev tD:μ:=199
abbrev H4:μ:=207
abbrev CQ:μ:=218
abbrev AF:FuncId:=19
abbrev pM:FuncId:=35
abbrev jk:FuncId:=51
abbrev jM:FuncId:=189
abbrev pN:FuncId:=38
abbrev lh:FuncId:=62
abbrev jO:FuncId:=63
abbrev r9:FuncId:=44
abbrev oL:FuncId:=45
abbrev pO:FuncId:=106
abbrev dO:FuncId:=107
abbrev lS (a:Addr)(o:Nat){β:Type}(f:Sl->M β):M β:=sh (eU .sl (a.plus o)) f
abbrev lI (a:Addr)(o:Nat){β:Type}(f:Int->M β):M β:=sh (eU li (a.plus o)) f
abbrev lT (a:Addr)(o:Nat){β:Type}(f:ζ->M β):M β:=sh (eU .str (a.plus o)) f
abbrev lB (a:Addr)(o:Nat){β:Type}(f:Bool->M β):M β:=sh (eU .bool (a.plus o)) f
abbrev eS (a:Addr){β:Type}(f:Sl->M β):M β:=sh (eU .sl a) f
abbrev eI (a:Addr){β:Type}(f:Int->M β):M β:=sh (eU li a) f
abbrev eT (a:Addr){β:Type}(f:ζ->M β):M β:=sh (eU .str a) f
abbrev eB (a:Addr){β:Type}(f:Bool->M β):M β:=sh (eU .bool a) f
abbrev iX (s:Sl)(i:Int)(z:Nat){β:Type}(f:Addr->M β):M β:=sh (mc s i z) f
abbrev gL (a:Addr){β:Type}(f:Sl×Int->M β):M β:=sh (bK [.sl,li] a) f
abbrev nL (a:Addr){β:Type}(f:Int×ζ×Bool×Sl×Sl->M β):M β:=sh (bK [li,.str,.bool,.sl,.sl] a) f
abbrev sN (a:Addr)(vs:δ){β:Type}(f:Unit->M β):M β:=sh (rE a vs) f
abbrev nW (t:μ)(vs:δ){β:Type}(f:Nat->M β):M β:=sh (iB none t vs) f
abbrev rG:=List.range'
def bT:Nat->Nat->η->η
 |0,_,a=>a
 |f+1,k,a=>cond (Nat.ble k 1) a (bT f (k/2) (k%2::a))
def bL (k:Nat):η:=bT 99 k []
class Fl (F:Type) where
 fl:F
instance {α:Type}:Fl (M α):=⟨AS⟩
instance {a:Type} {F:Type} [Fl F]:Fl (a->F):=⟨λ_=>Fl.fl⟩
abbrev uI (F:Type):=F->Nat->F
def lp {F:Type}[Fl F](B:F->Nat->F):Nat->F
 |0=>Fl.fl
 |n+1=>B (lp B n) n
def dr0(i:Nat):Option (List (Nat×η)):=none
def Ω (l:η):List (Nat×η):=l.map λi=>(i,[])
def Κ (i k:Nat)(l:List (Nat×η))(r:Option (List (Nat×η))):=cond (Nat.beq i k) (some l) r
end Go.Sh
