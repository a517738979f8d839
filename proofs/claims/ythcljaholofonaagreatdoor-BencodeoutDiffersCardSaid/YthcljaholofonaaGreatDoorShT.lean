
import Derived.Test.YthcljaholofonaaGreatDoorAgoI
import Derived.Test.YthcljaholofonaaGreatDoorProg
set_option linter.all false
namespace Go.Sh
open Go Go.Ago
abbrev ak (b:Nat):Addr:=⟨b,0,none⟩
abbrev li:yf:=.int .i64
abbrev av:Ty:=.one (.int .i64)
abbrev mV:Ty:=.one .str
abbrev jd:Ty:=.one .bool
abbrev aU:Ty:=.one .sl
abbrev aB:Ty:=.one .ak
abbrev GQ:Ty:=.one .ptr
abbrev vA:Ty:=.one .raw
abbrev tyM:Ty:=.one .mp
abbrev vi (n:Int):ξ:=.int .i64 n
abbrev aA (s:Sl):ξ:=.slice s.a s.len s.cap
abbrev oz:Sl:=⟨none,0,0⟩
abbrev aI:ξ:=.slice none 0 0
abbrev an:κ:=3
abbrev e9:κ:=4
abbrev gH:κ:=5
abbrev uo:κ:=9
abbrev ahs:κ:=21
abbrev ai:κ:=24
abbrev aT:κ:=31
abbrev ar:κ:=33
abbrev Ba:κ:=39
abbrev tS:κ:=43
abbrev Gi:κ:=47
abbrev jV:κ:=49
abbrev vH:κ:=50
abbrev iI:κ:=55
abbrev mW:κ:=61
abbrev CW:κ:=68
abbrev Ij:κ:=85
abbrev R6:κ:=0
abbrev eK:κ:=89
abbrev zV:κ:=114
abbrev dv:κ:=116
abbrev aH:κ:=139
abbrev bB:κ:=143
abbrev bO:κ:=153
abbrev yd:κ:=158
abbrev jP:κ:=160
abbrev zu:κ:=161
abbrev yw:κ:=200
abbrev We:κ:=203
abbrev fS:κ:=206
abbrev vB:κ:=257
abbrev Kh:κ:=265
abbrev Ff:κ:=286
abbrev lE:FuncId:=39
abbrev kA:FuncId:=198
abbrev lF:FuncId:=275
abbrev nz:FuncId:=79
abbrev lG:FuncId:=80
abbrev qV:FuncId:=50
abbrev rW:FuncId:=150
abbrev dZ:FuncId:=151
abbrev rX:FuncId:=32
abbrev wu:FuncId:=81
abbrev td:FuncId:=85
abbrev vI:FuncId:=56
abbrev lS (a:Addr)(o:Nat){β:Type}(f:Sl->M β):M β:=sh (dz .sl (a.plus o)) f
abbrev lI (a:Addr)(o:Nat){β:Type}(f:Int->M β):M β:=sh (dz li (a.plus o)) f
abbrev lT (a:Addr)(o:Nat){β:Type}(f:ζ->M β):M β:=sh (dz .str (a.plus o)) f
abbrev lB (a:Addr)(o:Nat){β:Type}(f:Bool->M β):M β:=sh (dz .bool (a.plus o)) f
abbrev eS (a:Addr){β:Type}(f:Sl->M β):M β:=sh (dz .sl a) f
abbrev eI (a:Addr){β:Type}(f:Int->M β):M β:=sh (dz li a) f
abbrev eT (a:Addr){β:Type}(f:ζ->M β):M β:=sh (dz .str a) f
abbrev eB (a:Addr){β:Type}(f:Bool->M β):M β:=sh (dz .bool a) f
abbrev iX (s:Sl)(i:Int)(z:Nat){β:Type}(f:Addr->M β):M β:=sh (ni s i z) f
abbrev gL (a:Addr){β:Type}(f:Sl×Int->M β):M β:=sh (cF [.sl,li] a) f
abbrev nL (a:Addr){β:Type}(f:Int×ζ×Bool×Sl×Sl->M β):M β:=sh (cF [li,.str,.bool,.sl,.sl] a) f
abbrev sN (a:Addr)(vs:δ){β:Type}(f:Unit->M β):M β:=sh (sL a vs) f
abbrev nW (t:κ)(vs:δ){β:Type}(f:Nat->M β):M β:=sh (gG none t vs) f
abbrev rG:=List.range'
def bT:Nat->Nat->η->η
 |0,_,a=>a
 |f+1,k,a=>cond (Nat.ble k 1) a (bT f (k/2) (k%2::a))
def bL (k:Nat):η:=bT 99 k []
class Fl (F:Type) where
 fl:F
instance {α:Type}:Fl (M α):=⟨AS⟩
instance {a:Type} {F:Type} [Fl F]:Fl (a->F):=⟨λ_=>Fl.fl⟩
abbrev pq (F:Type):=F->Nat->F
def lp {F:Type}[Fl F](B:F->Nat->F):Nat->F
 |0=>Fl.fl
 |n+1=>B (lp B n) n
def uq {P:Nat->Prop}(h0:P 0)(hs:∀k,(∀m,m<k+1->P m)->P (k+1))(n m:Nat)(_:m<n):P m:=by
 induction m using Nat.strongRecOn with
 |_ k ih=>cases k with
  |zero=>exact h0
  |succ k=>exact hs k λm hm=>ih m hm (by omega)
def dr0(i:Nat):Option (List (Nat×η)):=none
def Ω (l:η):List (Nat×η):=l.map λi=>(i,[])
def Κ (i k:Nat)(l:List (Nat×η))(r:Option (List (Nat×η))):=cond (Nat.beq i k) (some l) r
end Go.Sh
