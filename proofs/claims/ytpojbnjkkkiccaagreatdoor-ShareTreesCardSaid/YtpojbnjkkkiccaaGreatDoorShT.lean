
import Derived.Test.YtpojbnjkkkiccaaGreatDoorAgoI
import Derived.Test.YtpojbnjkkkiccaaGreatDoorProg
set_option linter.all false
namespace Go.Sh
open Go Go.Ago
abbrev ak (b:Nat):Addr:=⟨b,0,none⟩
abbrev li:vO:=.int .i64
abbrev au:Ty:=.one (.int .i64)
abbrev pF:Ty:=.one .str
abbrev jc:Ty:=.one .bool
abbrev bj:Ty:=.one .sl
abbrev aw:Ty:=.one .ak
abbrev wV:Ty:=.one .ptr
abbrev sH:Ty:=.one .raw
abbrev tyM:Ty:=.one .mp
abbrev vi (n:Int):ξ:=.int .i64 n
abbrev aA (s:Sl):ξ:=.slice s.a s.len s.cap
abbrev ow:Sl:=⟨none,0,0⟩
abbrev aE:ξ:=.slice none 0 0
abbrev al:κ:=3
abbrev Ep:κ:=4
abbrev jA:κ:=5
abbrev vD:κ:=9
abbrev aj:κ:=24
abbrev aF:κ:=29
abbrev av:κ:=36
abbrev wW:κ:=40
abbrev nB:κ:=46
abbrev jf:κ:=49
abbrev BH:κ:=54
abbrev uC:κ:=55
abbrev RJ:κ:=0
abbrev eg:κ:=60
abbrev gP:κ:=64
abbrev bA:κ:=70
abbrev iK:κ:=72
abbrev fh:κ:=73
abbrev FM:κ:=75
abbrev PU:κ:=76
abbrev dA:κ:=89
abbrev s6:κ:=95
abbrev aD:κ:=99
abbrev bw:κ:=103
abbrev bN:κ:=113
abbrev wX:κ:=118
abbrev xk:κ:=148
abbrev Wb:κ:=151
abbrev yf:κ:=181
abbrev uu:κ:=192
abbrev JX:κ:=200
abbrev Er:κ:=215
abbrev qq:FuncId:=42
abbrev jg:FuncId:=62
abbrev jQ:FuncId:=207
abbrev lD:FuncId:=56
abbrev jR:FuncId:=57
abbrev pG:FuncId:=31
abbrev qs:FuncId:=100
abbrev dQ:FuncId:=101
abbrev qt:FuncId:=30
abbrev qu:FuncId:=24
abbrev pH:FuncId:=46
abbrev yg:FuncId:=47
abbrev yh:FuncId:=48
abbrev vl:FuncId:=58
abbrev rC:FuncId:=36
abbrev rR:FuncId:=44
abbrev uD:FuncId:=39
abbrev lS (a:Addr)(o:Nat){β:Type}(f:Sl->M β):M β:=sh (dL .sl (a.plus o)) f
abbrev lI (a:Addr)(o:Nat){β:Type}(f:Int->M β):M β:=sh (dL li (a.plus o)) f
abbrev lT (a:Addr)(o:Nat){β:Type}(f:ζ->M β):M β:=sh (dL .str (a.plus o)) f
abbrev lB (a:Addr)(o:Nat){β:Type}(f:Bool->M β):M β:=sh (dL .bool (a.plus o)) f
abbrev eS (a:Addr){β:Type}(f:Sl->M β):M β:=sh (dL .sl a) f
abbrev eI (a:Addr){β:Type}(f:Int->M β):M β:=sh (dL li a) f
abbrev eT (a:Addr){β:Type}(f:ζ->M β):M β:=sh (dL .str a) f
abbrev eB (a:Addr){β:Type}(f:Bool->M β):M β:=sh (dL .bool a) f
abbrev iX (s:Sl)(i:Int)(z:Nat){β:Type}(f:Addr->M β):M β:=sh (mz s i z) f
abbrev gL (a:Addr){β:Type}(f:Sl×Int->M β):M β:=sh (cT [.sl,li] a) f
abbrev nL (a:Addr){β:Type}(f:Int×ζ×Bool×Sl×Sl->M β):M β:=sh (cT [li,.str,.bool,.sl,.sl] a) f
abbrev sN (a:Addr)(vs:δ){β:Type}(f:Unit->M β):M β:=sh (rN a vs) f
abbrev nW (t:κ)(vs:δ){β:Type}(f:Nat->M β):M β:=sh (iI none t vs) f
abbrev rG:=List.range'
def bT:Nat->Nat->η->η
 |0,_,a=>a
 |f+1,k,a=>cond (Nat.ble k 1) a (bT f (k/2) (k%2::a))
def bL (k:Nat):η:=bT 99 k []
class Fl (F:Type) where
 fl:F
instance {α:Type}:Fl (M α):=⟨AS⟩
instance {a:Type} {F:Type} [Fl F]:Fl (a->F):=⟨λ_=>Fl.fl⟩
abbrev uv (F:Type):=F->Nat->F
def lp {F:Type}[Fl F](B:F->Nat->F):Nat->F
 |0=>Fl.fl
 |n+1=>B (lp B n) n
def dr0(i:Nat):Option (List (Nat×η)):=none
def Ω (l:η):List (Nat×η):=l.map λi=>(i,[])
def Κ (i k:Nat)(l:List (Nat×η))(r:Option (List (Nat×η))):=cond (Nat.beq i k) (some l) r
end Go.Sh
