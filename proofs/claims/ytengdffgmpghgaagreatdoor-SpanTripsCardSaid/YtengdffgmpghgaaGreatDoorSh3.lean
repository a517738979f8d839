
import Derived.Test.YtengdffgmpghgaaGreatDoorSh2
set_option linter.all false
set_option maxRecDepth 100000
set_option maxHeartbeats 0
namespace Go.Sh
open Go Go.Ago Go.Proofs Go.IntKind Go.Proofs.Tryz
variable (n:Nat)
structure aa where
 ff:Int->Addr->Addr->Sl->Int->Int->M Unit
 fu:θ->Int->M Sl
 dG:Sl->ξ->M Unit
 aI:Int->Int->Addr->Addr->M Int
 kV:θ->Int->θ->Int->μ->M Int
 bG:Sl->Int->Int->Int->ξ->Bool->Bool->M Unit
 cQ:Sl->Int->Int->Int->ξ->M Unit
 iU:θ->θ->μ->θ->θ->Sl->Sl->Int->Int->M (Unit⊕Int)
 qU:θ->Int->θ->Int->μ->M Int
 bQ:Sl->Int->Int->ξ->Int->Int->M Unit
 bR:Sl->Int->Int->ξ->Int->M Unit
 dw:Sl->Int->Int->ξ->M Unit
 cH:Sl->ξ->Int->Int->Int->Int->M Unit
 cI:Sl->ξ->Int->Int->Int->M Unit
 eO:Sl->Int->Int->ξ->M Unit
 dK:Sl->Int->Int->ξ->M (Int×Int)
 bH:Sl->Int->Int->ξ->Int->Int->Int->M Unit
 bI:Sl->Int->Int->ξ->Int->Int->Int->M Unit
 aZ:Sl->Int->Int->ξ->Int->Int->M Int
 bf:Sl->Int->Int->ξ->Int->Int->M (Unit⊕Bool)
 bW:Sl->Int->Int->ξ->M Bool
 bK:Sl->Int->ξ->Int->Int->M Int
 bL:Sl->Int->ξ->Int->Int->M Int
 bM:Sl->Int->ξ->Int->Int->M Int
 de:Sl->Int->Int->Int->ξ->M Int
 cB:Sl->Int->ξ->Int->Int->M Int
 cC:Sl->Int->ξ->Int->Int->M Int
 cD:Sl->Int->ξ->Int->Int->M Int
 cF:Sl->Int->ξ->Int->Int->M Int
 cG:Sl->Int->ξ->Int->Int->M Int
 eA:Sl->Int->Int->Int->ξ->M (Int×Bool)
 cJ:Sl->Int->Int->ξ->Int->M (Unit⊕Unit)
 dH:Sl->Int->Int->Int->ξ->M Unit
 cm:Sl->Int->θ->ξ->M Int
 dj:Sl->Int->Int->Int->θ->ξ->M Int
 dm:Sl->Int->Int->θ->ξ->M (Int×Int)
def au (G:aa)(n:Nat)(x:ξ)(a0 a1:Int):M Int:=if pG iD x then sh (nU [aG,aG] x) λ(c:Addr×Addr)=>G.aI a0 a1 c.1 c.2 else AS
abbrev iF:=au
abbrev fZ:=au
abbrev ga:=au
abbrev fR:=au
abbrev im:=au
abbrev iq:=au
abbrev jQ:=au
abbrev jR:=au
abbrev jL:=au
abbrev jM:=au
abbrev kH:=au
abbrev kI:=au
abbrev lY:=au
def kT (G:aa)(n:Nat)(a0:Int)(a1 a2:Addr)(a3:Sl)(a4 a5:Int):M Unit:=if decide (a5<a4) then L12 a3 a5 1 λx0=>sh (bD x0 [vi a5]) λx1=>G.ff a0 a1 a2 a3 a4 (i64.wrap (a5+1)) else AI ()
def kU (G:aa)(n:Nat)(a0:Int)(a1 a2:Addr)(a3:Sl):M Sl:=sh (G.dG a3 (Value.func (Fn.func iD) #[] #[.pointer (some a1),.pointer (some a2)])) λx0=>L33 a1 λx1=>sh (nn x1) λx2=>L15 (x2.plus 2) λx3=>L12 x3 a0 1 λx4=>sh (bD x4 [aM a3]) λx5=>AI a3
def nH (G:aa)(n:Nat)(a0:θ)(a1:Int):M Sl:=sh (aJ none cU [.pointer a0]) λx0=>L33 (ai x0) λx1=>sh (nn x1) λx2=>L15 ((x2.plus 0).plus 0) λx3=>L12 x3 a1 5 λx4=>sh (aJ none eS [.pointer none]) λx5=>sh (bD (ai x5) [.pointer (some x4)]) λx6=>L33 (ai x0) λx7=>sh (nn x7) λx8=>L15 (x8.plus 2) λx9=>L12 x9 a1 1 λx10=>L15 x10 λx11=>if !x11.a.isNone then L33 (ai x0) λx12=>sh (nn x12) λx13=>L15 (x13.plus 2) λx14=>L12 x14 a1 1 λx15=>L15 x15 λx16=>AI x16 else L33 (ai x5) λx12=>sh (nn x12) λx13=>L15 (x13.plus 4) λx14=>sh (vG none ar [vi 0] (↑x14.len:Int) (↑x14.len:Int)) λx15=>sh (G.ff a1 (ai x0) (ai x5) x15 (↑x15.len:Int) 0) λx16=>L33 (ai x5) λx17=>sh (nn x17) λx18=>L10 (x18.plus 0) λx19=>if decide (x19=10) then L33 (ai x5) λx20=>sh (nn x20) λx21=>L19 (x21.plus 2) λx22=>if !x22 then kU G n a1 (ai x0) (ai x5) x15 else L33 (ai x0) λx23=>sh (nn x23) λx24=>L15 (x24.plus 2) λx25=>L12 x25 a1 1 λx26=>sh (bD x26 [aM x15]) λx27=>AI x15 else L33 (ai x0) λx20=>sh (nn x20) λx21=>L15 (x21.plus 2) λx22=>L12 x22 a1 1 λx23=>sh (bD x23 [aM x15]) λx24=>AI x15
def jX (G:aa)(n:Nat)(a0:Sl)(a1:ξ):M Unit:=sh (pd n (IntKind.u64.wrap (↑a0.len:Int))) λx0=>sh (G.cQ a0 0 (↑a0.len:Int) x0 a1) λx1=>AI ()
def lZ (G:aa)(n:Nat)(a0 a1:Int)(a2 a3:Addr):M Int:=L33 a2 λx0=>L33 a3 λx1=>sh (nn x1) λx2=>L15 (x2.plus 3) λx3=>L12 x3 a0 1 λx4=>L10 x4 λx5=>L33 a2 λx6=>L33 a3 λx7=>sh (nn x7) λx8=>L15 (x8.plus 3) λx9=>L12 x9 a1 1 λx10=>L10 x10 λx11=>sh (G.kV x0 x5 x6 x11 none) λx12=>AI x12
def tQ (G:aa)(n:Nat)(a0:θ)(a1:Int)(a2:θ)(a3:Int)(a4:μ):M Int:=sh (rK IW (Ty.one li) 0 a4 (Value.agg #[vi a1,vi a3])) λ(x0:Bool×Int)=>if x0.1 then AI x0.2 else sh (G.qU a0 a1 a2 a3 a4) λx1=>if !a4.isNone then sh (Ed IW a4 (Value.agg #[vi a1,vi a3]) (vi x1)) λx2=>AI x1 else AI x1
def cM (G:aa)(n:Nat)(a0:Sl)(a1 a2 a3:Int)(a4:ξ)(a5 a6:Bool)(a7 a8:Int):M Unit:=sh (G.eA a0 a1 a2 a8 a4) λx0=>sh (ou (decide (8≠0))) λx1=>if decide (i64.wrap (x0.1-a1)<i64.wrap (a2-x0.1)) then sh (G.cQ a0 a1 x0.1 a3 a4) λx2=>G.bG a0 (i64.wrap (x0.1+1)) a2 a3 a4 (decide (i64.wrap (a7.tdiv 8)<=i64.wrap (x0.1-a1))) x0.2 else sh (G.cQ a0 (i64.wrap (x0.1+1)) a2 a3 a4) λx2=>G.bG a0 a1 x0.1 a3 a4 (decide (i64.wrap (a7.tdiv 8)<=i64.wrap (a2-x0.1))) x0.2
def bB (G:aa)(n:Nat)(a0:Sl)(a1 a2 a3:Int)(a4:ξ)(a5 a6:Bool)(a7 a8:Int):M Unit:=if decide (0<a1) then L12 a0 (i64.wrap (a1-1)) 1 λx0=>L12 a0 a8 1 λx1=>L10 x0 λx2=>L10 x1 λx3=>sh (au G n a4 x2 x3) λx4=>if !decide (x4<0) then sh (G.de a0 a1 a2 a8 a4) λx5=>G.bG a0 x5 a2 a3 a4 a5 a6 else cM G n a0 a1 a2 a3 a4 a5 a6 a7 a8 else cM G n a0 a1 a2 a3 a4 a5 a6 a7 a8
def cN (G:aa)(n:Nat)(a0:Sl)(a1 a2 a3:Int)(a4:ξ)(a5 a6:Bool)(a7 a8 a9:Int):M Unit:=if a5 then if a6 then if decide (a9=1) then sh (G.bW a0 a1 a2 a4) λx0=>if x0 then AI () else bB G n a0 a1 a2 a3 a4 a5 a6 a7 a8 else bB G n a0 a1 a2 a3 a4 a5 a6 a7 a8 else bB G n a0 a1 a2 a3 a4 a5 a6 a7 a8 else bB G n a0 a1 a2 a3 a4 a5 a6 a7 a8
def cO (G:aa)(n:Nat)(a0:Sl)(a1 a2 a3:Int)(a4:ξ)(a5 a6:Bool)(a7:Int):M Unit:=sh (G.dK a0 a1 a2 a4) λx0=>if decide (x0.2=2) then sh (eZ n a0 a1 a2 a4) λx1=>cN G n a0 a1 a2 a3 a4 a5 a6 a7 (i64.wrap (i64.wrap (a2-1)-i64.wrap (x0.1-a1))) 1 else cN G n a0 a1 a2 a3 a4 a5 a6 a7 x0.1 x0.2
def dF (G:aa)(n:Nat)(a0:Sl)(a1 a2 a3:Int)(a4:ξ)(a5 a6:Bool):M Unit:=if decide (i64.wrap (a2-a1)<=12) then sh (G.dw a0 a1 a2 a4) λx0=>AI () else if decide (a3=0) then sh (G.eO a0 a1 a2 a4) λx0=>AI () else if !a5 then sh (eH n a0 a1 a2 a4) λx0=>cO G n a0 a1 a2 (i64.wrap (a3-1)) a4 a5 a6 (i64.wrap (a2-a1)) else cO G n a0 a1 a2 a3 a4 a5 a6 (i64.wrap (a2-a1))
def ez (G:aa)(n:Nat)(a0:Sl)(a1 a2 a3:Int)(a4:ξ):M Unit:=sh (G.bG a0 a1 a2 a3 a4 true true) λx0=>AI ()
def iw (G:aa)(n:Nat)(a0 a1:θ)(a2:μ)(a3 a4:θ)(a5 a6:Sl)(a7 a8 a9:Int):M (Unit⊕Int):=sh (nn a3) λx0=>L12 a5 a7 1 λx1=>sh (nn a4) λx2=>L12 a6 a7 1 λx3=>L15 (x0.plus 4) λx4=>L10 x1 λx5=>L12 x4 x5 1 λx6=>L10 x6 λx7=>L15 (x2.plus 4) λx8=>L10 x3 λx9=>L12 x8 x9 1 λx10=>L10 x10 λx11=>sh (G.kV a0 x7 a1 x11 a2) λx12=>if !decide (x12=0) then AI (Sum.inr x12) else G.iU a0 a1 a2 a3 a4 a5 a6 a8 (i64.wrap (a9+1))
def qT (G:aa)(n:Nat)(a0 a1:θ)(a2:μ)(a3 a4:θ)(a5 a6:Sl)(a7 a8:Int):M (Unit⊕Int):=if decide (a8<a7) then sh (nn a3) λx0=>L10 (x0.plus 0) λx1=>if decide (x1=10) then sh (nn a3) λx2=>L12 a5 a8 1 λx3=>sh (nn a4) λx4=>L12 a6 a8 1 λx5=>L15 (x2.plus 3) λx6=>L10 x3 λx7=>L12 x6 x7 1 λx8=>L10 x8 λx9=>L15 (x4.plus 3) λx10=>L10 x5 λx11=>L12 x10 x11 1 λx12=>L10 x12 λx13=>sh (G.kV a0 x9 a1 x13 none) λx14=>if !decide (x14=0) then AI (Sum.inr x14) else iw G n a0 a1 a2 a3 a4 a5 a6 a8 a7 a8 else iw G n a0 a1 a2 a3 a4 a5 a6 a8 a7 a8 else AI (Sum.inl ())
def vm (G:aa)(n:Nat)(a0:θ)(a1:Int)(a2:θ)(a3:Int)(a4:μ):M Int:=sh (nn a0) λx0=>sh (nn a2) λx1=>L15 ((x0.plus 0).plus 0) λx2=>L12 x2 a1 5 λx3=>L15 ((x1.plus 0).plus 0) λx4=>L12 x4 a3 5 λx5=>sh (nn (some x3)) λx6=>sh (nn (some x5)) λx7=>L10 (x6.plus 0) λx8=>L10 (x7.plus 0) λx9=>if decide (x8<x9) then AI (-1) else sh (nn (some x3)) λx10=>sh (nn (some x5)) λx11=>L10 (x10.plus 0) λx12=>L10 (x11.plus 0) λx13=>if decide (x13<x12) then AI 1 else sh (nn (some x3)) λx14=>sh (nn (some x5)) λx15=>L19 (x14.plus 2) λx16=>L19 (x15.plus 2) λx17=>if !x16==x17 then sh (nn (some x5)) λx18=>L19 (x18.plus 2) λx19=>if x19 then AI (-1) else AI 1 else sh (nn (some x3)) λx18=>sh (nn (some x3)) λx19=>sh (nn (some x5)) λx20=>L10 (x18.plus 0) λx21=>L11 (x19.plus 1) λx22=>L11 (x20.plus 1) λx23=>sh (uz n x21 x22 x23) λx24=>if !decide (x24=0) then AI x24 else sh (G.fu a0 a1) λx25=>sh (G.fu a2 a3) λx26=>sh (G.iU a0 a2 a4 (some x3) (some x5) x25 x26 (if (↑x26.len:Int)<(↑x25.len:Int) then (↑x26.len:Int) else (↑x25.len:Int)) 0) (bu (λx27=>if decide ((↑x25.len:Int)<(↑x26.len:Int)) then AI (-1) else if decide ((↑x26.len:Int)<(↑x25.len:Int)) then AI 1 else AI 0) (λx27=>AI x27))
def eC (G:aa)(n:Nat)(a0:Sl)(a1 a2:Int)(a3:ξ)(a4 a5:Int):M Unit:=L12 a0 (i64.wrap (a5-1)) 1 λx0=>L12 a0 a5 1 λx1=>L10 x0 λx2=>L10 x1 λx3=>L12 a0 a5 1 λx4=>sh (bD x4 [vi x2]) λx5=>L12 a0 (i64.wrap (a5-1)) 1 λx6=>sh (bD x6 [vi x3]) λx7=>G.bQ a0 a1 a2 a3 a4 (i64.wrap (a5-1))
def cq (G:aa)(n:Nat)(a0:Sl)(a1 a2:Int)(a3:ξ)(a4 a5:Int):M Unit:=if decide (a1<a5) then L12 a0 a5 1 λx0=>L12 a0 (i64.wrap (a5-1)) 1 λx1=>L10 x0 λx2=>L10 x1 λx3=>sh (iF G n a3 x2 x3) λx4=>if decide (x4<0) then eC G n a0 a1 a2 a3 a4 a5 else AI () else AI ()
def cw (G:aa)(n:Nat)(a0:Sl)(a1 a2:Int)(a3:ξ)(a4:Int):M Unit:=if decide (a4<a2) then sh (G.bQ a0 a1 a2 a3 a4 a4) λx0=>G.bR a0 a1 a2 a3 (i64.wrap (a4+1)) else AI ()
def gh (G:aa)(n:Nat)(a0:Sl)(a1 a2:Int)(a3:ξ):M Unit:=sh (G.bR a0 a1 a2 a3 (i64.wrap (a1+1))) λx0=>AI ()
def dq (G:aa)(n:Nat)(a0:Sl)(a1:ξ)(a2 a3 a4 a5:Int):M Unit:=if decide (0<=a5) then sh (G.dH a0 a5 a4 a2 a1) λx0=>G.cH a0 a1 a2 a3 a4 (i64.wrap (a5-1)) else AI ()
def du (G:aa)(n:Nat)(a0:Sl)(a1:ξ)(a2 a3 a4:Int):M Unit:=if decide (0<=a4) then L12 a0 (i64.wrap (a2+a4)) 1 λx0=>L12 a0 a2 1 λx1=>L10 x0 λx2=>L10 x1 λx3=>L12 a0 a2 1 λx4=>sh (bD x4 [vi x2]) λx5=>L12 a0 (i64.wrap (a2+a4)) 1 λx6=>sh (bD x6 [vi x3]) λx7=>sh (G.dH a0 a3 a4 a2 a1) λx8=>G.cI a0 a1 a2 a3 (i64.wrap (a4-1)) else AI ()
def iS (G:aa)(n:Nat)(a0:Sl)(a1 a2:Int)(a3:ξ):M Unit:=sh (ou (decide (2≠0))) λx0=>sh (G.cH a0 a3 a1 0 (i64.wrap (a2-a1)) (i64.wrap ((i64.wrap (i64.wrap (a2-a1)-1)).tdiv 2))) λx1=>sh (G.cI a0 a3 a1 0 (i64.wrap (i64.wrap (a2-a1)-1))) λx2=>AI ()
def bO (G:aa)(n:Nat)(a0:Addr)(a1:Int):M (Int×Int):=L10 a0 λx0=>if decide (x0=0) then AI (a1,1) else if decide (x0=12) then AI (a1,2) else AI (a1,0)
def gN (G:aa)(n:Nat)(a0:Sl)(a1 a2:Int)(a3:ξ):M (Int×Int):=L27 λx0=>sh (ou (decide (4≠0))) λx1=>sh (ou (decide (4≠0))) λx2=>sh (ou (decide (4≠0))) λx3=>if decide (8<=i64.wrap (a2-a1)) then if decide (50<=i64.wrap (a2-a1)) then sh (G.cm a0 (i64.wrap (a1+i64.wrap (i64.wrap ((i64.wrap (a2-a1)).tdiv 4)*1))) (some (ai x0)) a3) λx4=>sh (G.cm a0 (i64.wrap (a1+i64.wrap (i64.wrap ((i64.wrap (a2-a1)).tdiv 4)*2))) (some (ai x0)) a3) λx5=>sh (G.cm a0 (i64.wrap (a1+i64.wrap (i64.wrap ((i64.wrap (a2-a1)).tdiv 4)*3))) (some (ai x0)) a3) λx6=>sh (G.dj a0 x4 x5 x6 (some (ai x0)) a3) λx7=>bO G n (ai x0) x7 else sh (G.dj a0 (i64.wrap (a1+i64.wrap (i64.wrap ((i64.wrap (a2-a1)).tdiv 4)*1))) (i64.wrap (a1+i64.wrap (i64.wrap ((i64.wrap (a2-a1)).tdiv 4)*2))) (i64.wrap (a1+i64.wrap (i64.wrap ((i64.wrap (a2-a1)).tdiv 4)*3))) (some (ai x0)) a3) λx4=>bO G n (ai x0) x4 else bO G n (ai x0) (i64.wrap (a1+i64.wrap (i64.wrap ((i64.wrap (a2-a1)).tdiv 4)*2)))
def mi (G:aa)(n:Nat)(a0:Sl)(a1 a2:Int)(a3:ξ)(a4 a5 a6:Int):M Unit:=if decide (1<=a6) then L12 a0 a6 1 λx0=>L12 a0 (i64.wrap (a6-1)) 1 λx1=>L10 x0 λx2=>L10 x1 λx3=>sh (ga G n a3 x2 x3) λx4=>if !decide (x4<0) then AI () else L12 a0 (i64.wrap (a6-1)) 1 λx5=>L12 a0 a6 1 λx6=>L10 x5 λx7=>L10 x6 λx8=>L12 a0 a6 1 λx9=>sh (bD x9 [vi x7]) λx10=>L12 a0 (i64.wrap (a6-1)) 1 λx11=>sh (bD x11 [vi x8]) λx12=>G.bH a0 a1 a2 a3 a4 a5 (i64.wrap (a6-1)) else AI ()
def mj (G:aa)(n:Nat)(a0:Sl)(a1 a2:Int)(a3:ξ)(a4 a5 a6:Int):M Unit:=if decide (a6<a2) then L12 a0 a6 1 λx0=>L12 a0 (i64.wrap (a6-1)) 1 λx1=>L10 x0 λx2=>L10 x1 λx3=>sh (fR G n a3 x2 x3) λx4=>if !decide (x4<0) then AI () else L12 a0 (i64.wrap (a6-1)) 1 λx5=>L12 a0 a6 1 λx6=>L10 x5 λx7=>L10 x6 λx8=>L12 a0 a6 1 λx9=>sh (bD x9 [vi x7]) λx10=>L12 a0 (i64.wrap (a6-1)) 1 λx11=>sh (bD x11 [vi x8]) λx12=>G.bI a0 a1 a2 a3 a4 a5 (i64.wrap (a6+1)) else AI ()
def bC (G:aa)(n:Nat)(a0:Sl)(a1 a2:Int)(a3:ξ)(a4 a5:Int):M Int:=if decide (a4<a2) then L12 a0 a4 1 λx0=>L12 a0 (i64.wrap (a4-1)) 1 λx1=>L10 x0 λx2=>L10 x1 λx3=>sh (fZ G n a3 x2 x3) λx4=>if !decide (x4<0) then G.aZ a0 a1 a2 a3 (i64.wrap (a4+1)) a5 else AI a4 else AI a4
def di (G:aa)(n:Nat)(a0:Sl)(a1 a2:Int)(a3:ξ)(a4 a5:Int):M (Unit⊕Bool):=if decide (2<=i64.wrap (a2-a4)) then sh (G.bI a0 a1 a2 a3 a4 a5 (i64.wrap (a4+1))) λx0=>G.bf a0 a1 a2 a3 a4 (i64.wrap (a5+1)) else G.bf a0 a1 a2 a3 a4 (i64.wrap (a5+1))
def dI (G:aa)(n:Nat)(a0:Sl)(a1 a2:Int)(a3:ξ)(a4 a5:Int):M (Unit⊕Bool):=if decide (a5<5) then sh (G.aZ a0 a1 a2 a3 a4 a5) λx0=>if decide (x0=a2) then AI (Sum.inr true) else if decide (i64.wrap (a2-a1)<50) then AI (Sum.inr false) else L12 a0 (i64.wrap (x0-1)) 1 λx1=>L12 a0 x0 1 λx2=>L10 x1 λx3=>L10 x2 λx4=>L12 a0 x0 1 λx5=>sh (bD x5 [vi x3]) λx6=>L12 a0 (i64.wrap (x0-1)) 1 λx7=>sh (bD x7 [vi x4]) λx8=>if decide (2<=i64.wrap (x0-a1)) then sh (G.bH a0 a1 a2 a3 x0 a5 (i64.wrap (x0-1))) λx9=>di G n a0 a1 a2 a3 x0 a5 else di G n a0 a1 a2 a3 x0 a5 else AI (Sum.inl ())
def ea (G:aa)(n:Nat)(a0:Sl)(a1 a2:Int)(a3:ξ):M Bool:=sh (G.bf a0 a1 a2 a3 (i64.wrap (a1+1)) 0) (bu (λx0=>AI false) (λx0=>AI x0))
def bY (G:aa)(n:Nat)(a0:Sl)(a1:Int)(a2:ξ)(a3 a4:Int):M Int:=if decide (a3<=a4) then L12 a0 a1 1 λx0=>L12 a0 a4 1 λx1=>L10 x0 λx2=>L10 x1 λx3=>sh (iq G n a2 x2 x3) λx4=>if decide (x4<0) then G.bK a0 a1 a2 a3 (i64.wrap (a4-1)) else AI a4 else AI a4
def bZ (G:aa)(n:Nat)(a0:Sl)(a1:Int)(a2:ξ)(a3 a4:Int):M Int:=if decide (a3<=a4) then L12 a0 a1 1 λx0=>L12 a0 a3 1 λx1=>L10 x0 λx2=>L10 x1 λx3=>sh (im G n a2 x2 x3) λx4=>if !decide (x4<0) then G.bL a0 a1 a2 (i64.wrap (a3+1)) a4 else AI a3 else AI a3
def b7 (G:aa)(n:Nat)(a0:Sl)(a1:Int)(a2:ξ)(a3 a4:Int):M Int:=sh (G.bL a0 a1 a2 a3 a4) λx0=>sh (G.bK a0 a1 a2 x0 a4) λx1=>if decide (x1<x0) then AI x0 else L12 a0 x1 1 λx2=>L12 a0 x0 1 λx3=>L10 x2 λx4=>L10 x3 λx5=>L12 a0 x0 1 λx6=>sh (bD x6 [vi x4]) λx7=>L12 a0 x1 1 λx8=>sh (bD x8 [vi x5]) λx9=>G.bM a0 a1 a2 (i64.wrap (x0+1)) (i64.wrap (x1-1))
def fW (G:aa)(n:Nat)(a0:Sl)(a1 a2 a3:Int)(a4:ξ):M Int:=L12 a0 a3 1 λx0=>L12 a0 a1 1 λx1=>L10 x0 λx2=>L10 x1 λx3=>L12 a0 a1 1 λx4=>sh (bD x4 [vi x2]) λx5=>L12 a0 a3 1 λx6=>sh (bD x6 [vi x3]) λx7=>sh (G.bM a0 a1 a4 (i64.wrap (a1+1)) (i64.wrap (a2-1))) λx8=>AI x8
def cX (G:aa)(n:Nat)(a0:Sl)(a1:Int)(a2:ξ)(a3 a4:Int):M Int:=if decide (a3<=a4) then L12 a0 a4 1 λx0=>L12 a0 a1 1 λx1=>L10 x0 λx2=>L10 x1 λx3=>sh (jM G n a2 x2 x3) λx4=>if !decide (x4<0) then G.cB a0 a1 a2 a3 (i64.wrap (a4-1)) else AI a4 else AI a4
def cY (G:aa)(n:Nat)(a0:Sl)(a1:Int)(a2:ξ)(a3 a4:Int):M Int:=if decide (a3<=a4) then L12 a0 a3 1 λx0=>L12 a0 a1 1 λx1=>L10 x0 λx2=>L10 x1 λx3=>sh (jL G n a2 x2 x3) λx4=>if decide (x4<0) then G.cC a0 a1 a2 (i64.wrap (a3+1)) a4 else AI a3 else AI a3
def cZ (G:aa)(n:Nat)(a0:Sl)(a1:Int)(a2:ξ)(a3 a4:Int):M Int:=sh (G.cC a0 a1 a2 a3 a4) λx0=>sh (G.cB a0 a1 a2 x0 a4) λx1=>if decide (x1<x0) then AI x1 else L12 a0 x1 1 λx2=>L12 a0 x0 1 λx3=>L10 x2 λx4=>L10 x3 λx5=>L12 a0 x0 1 λx6=>sh (bD x6 [vi x4]) λx7=>L12 a0 x1 1 λx8=>sh (bD x8 [vi x5]) λx9=>G.cD a0 a1 a2 (i64.wrap (x0+1)) (i64.wrap (x1-1))
def da (G:aa)(n:Nat)(a0:Sl)(a1:Int)(a2:ξ)(a3 a4:Int):M Int:=if decide (a3<=a4) then L12 a0 a4 1 λx0=>L12 a0 a1 1 λx1=>L10 x0 λx2=>L10 x1 λx3=>sh (jR G n a2 x2 x3) λx4=>if !decide (x4<0) then G.cF a0 a1 a2 a3 (i64.wrap (a4-1)) else AI a4 else AI a4
def db (G:aa)(n:Nat)(a0:Sl)(a1:Int)(a2:ξ)(a3 a4:Int):M Int:=if decide (a3<=a4) then L12 a0 a3 1 λx0=>L12 a0 a1 1 λx1=>L10 x0 λx2=>L10 x1 λx3=>sh (jQ G n a2 x2 x3) λx4=>if decide (x4<0) then G.cG a0 a1 a2 (i64.wrap (a3+1)) a4 else AI a3 else AI a3
def iz (G:aa)(n:Nat)(a0:Sl)(a1 a2 a3:Int)(a4:ξ):M (Int×Bool):=L12 a0 a3 1 λx0=>L12 a0 a1 1 λx1=>L10 x0 λx2=>L10 x1 λx3=>L12 a0 a1 1 λx4=>sh (bD x4 [vi x2]) λx5=>L12 a0 a3 1 λx6=>sh (bD x6 [vi x3]) λx7=>sh (G.cG a0 a1 a4 (i64.wrap (a1+1)) (i64.wrap (a2-1))) λx8=>sh (G.cF a0 a1 a4 x8 (i64.wrap (a2-1))) λx9=>if decide (x9<x8) then L12 a0 a1 1 λx10=>L12 a0 x9 1 λx11=>L10 x10 λx12=>L10 x11 λx13=>L12 a0 x9 1 λx14=>sh (bD x14 [vi x12]) λx15=>L12 a0 a1 1 λx16=>sh (bD x16 [vi x13]) λx17=>AI (x9,true) else L12 a0 x9 1 λx10=>L12 a0 x8 1 λx11=>L10 x10 λx12=>L10 x11 λx13=>L12 a0 x8 1 λx14=>sh (bD x14 [vi x12]) λx15=>L12 a0 x9 1 λx16=>sh (bD x16 [vi x13]) λx17=>sh (G.cD a0 a1 a4 (i64.wrap (x8+1)) (i64.wrap (x9-1))) λx18=>L12 a0 a1 1 λx19=>L12 a0 x18 1 λx20=>L10 x19 λx21=>L10 x20 λx22=>L12 a0 x18 1 λx23=>sh (bD x23 [vi x21]) λx24=>L12 a0 a1 1 λx25=>sh (bD x25 [vi x22]) λx26=>AI (x18,false)
def bP (G:aa)(n:Nat)(a0:Sl)(a1 a2:Int)(a3:ξ)(a4 a5:Int):M (Unit⊕Unit):=L12 a0 (i64.wrap (a2+a4)) 1 λx0=>L12 a0 (i64.wrap (a2+a5)) 1 λx1=>L10 x0 λx2=>L10 x1 λx3=>sh (kI G n a3 x2 x3) λx4=>if !decide (x4<0) then AI (Sum.inr ()) else L12 a0 (i64.wrap (a2+a5)) 1 λx5=>L12 a0 (i64.wrap (a2+a4)) 1 λx6=>L10 x5 λx7=>L10 x6 λx8=>L12 a0 (i64.wrap (a2+a4)) 1 λx9=>sh (bD x9 [vi x7]) λx10=>L12 a0 (i64.wrap (a2+a5)) 1 λx11=>sh (bD x11 [vi x8]) λx12=>G.cJ a0 a1 a2 a3 a5
def dv (G:aa)(n:Nat)(a0:Sl)(a1 a2:Int)(a3:ξ)(a4:Int):M (Unit⊕Unit):=if decide (a1<=i64.wrap (i64.wrap (2*a4)+1)) then AI (Sum.inl ()) else if decide (i64.wrap (i64.wrap (i64.wrap (2*a4)+1)+1)<a1) then L12 a0 (i64.wrap (a2+i64.wrap (i64.wrap (2*a4)+1))) 1 λx0=>L12 a0 (i64.wrap (i64.wrap (a2+i64.wrap (i64.wrap (2*a4)+1))+1)) 1 λx1=>L10 x0 λx2=>L10 x1 λx3=>sh (kH G n a3 x2 x3) λx4=>if decide (x4<0) then bP G n a0 a1 a2 a3 a4 (i64.wrap (i64.wrap (i64.wrap (2*a4)+1)+1)) else bP G n a0 a1 a2 a3 a4 (i64.wrap (i64.wrap (2*a4)+1)) else bP G n a0 a1 a2 a3 a4 (i64.wrap (i64.wrap (2*a4)+1))
def iT (G:aa)(n:Nat)(a0:Sl)(a1 a2 a3:Int)(a4:ξ):M Unit:=sh (G.cJ a0 a2 a3 a4 a1) (bu (λx0=>AI ()) (λx0=>AI ()))
def pS (G:aa)(n:Nat)(a0:Sl)(a1:Int)(a2:θ)(a3:ξ):M Int:=sh (G.dj a0 (i64.wrap (a1-1)) a1 (i64.wrap (a1+1)) a2 a3) λx0=>AI x0
def jN (G:aa)(n:Nat)(a0:Sl)(a1 a2 a3:Int)(a4:θ)(a5:ξ):M Int:=sh (G.dm a0 a1 a2 a4 a5) λx0=>sh (G.dm a0 x0.2 a3 a4 a5) λx1=>sh (G.dm a0 x0.1 x1.1 a4 a5) λx2=>AI x2.2
def jO (G:aa)(n:Nat)(a0:Sl)(a1 a2:Int)(a3:θ)(a4:ξ):M (Int×Int):=L12 a0 a2 1 λx0=>L12 a0 a1 1 λx1=>L10 x0 λx2=>L10 x1 λx3=>sh (lY G n a4 x2 x3) λx4=>if decide (x4<0) then sh (nn a3) λx5=>L10 x5 λx6=>sh (nn a3) λx7=>sh (bD x7 [vi (i64.wrap (x6+1))]) λx8=>AI (a2,a1) else AI (a1,a2)
def aa.at:Nat->aa|0=>⟨λ_ _ _ _ _ _=>AS,λ_ _=>AS,λ_ _=>AS,λ_ _ _ _=>AS,λ_ _ _ _ _=>AS,λ_ _ _ _ _ _ _=>AS,λ_ _ _ _ _=>AS,λ_ _ _ _ _ _ _ _ _=>AS,λ_ _ _ _ _=>AS,λ_ _ _ _ _ _=>AS,λ_ _ _ _ _=>AS,λ_ _ _ _=>AS,λ_ _ _ _ _ _=>AS,λ_ _ _ _ _=>AS,λ_ _ _ _=>AS,λ_ _ _ _=>AS,λ_ _ _ _ _ _ _=>AS,λ_ _ _ _ _ _ _=>AS,λ_ _ _ _ _ _=>AS,λ_ _ _ _ _ _=>AS,λ_ _ _ _=>AS,λ_ _ _ _ _=>AS,λ_ _ _ _ _=>AS,λ_ _ _ _ _=>AS,λ_ _ _ _ _=>AS,λ_ _ _ _ _=>AS,λ_ _ _ _ _=>AS,λ_ _ _ _ _=>AS,λ_ _ _ _ _=>AS,λ_ _ _ _ _=>AS,λ_ _ _ _ _=>AS,λ_ _ _ _ _=>AS,λ_ _ _ _ _=>AS,λ_ _ _ _=>AS,λ_ _ _ _ _ _=>AS,λ_ _ _ _ _=>AS⟩|n+1=>⟨kT (aa.at n) n,nH (aa.at n) n,jX (aa.at n) n,lZ (aa.at n) n,tQ (aa.at n) n,dF (aa.at n) n,ez (aa.at n) n,qT (aa.at n) n,vm (aa.at n) n,cq (aa.at n) n,cw (aa.at n) n,gh (aa.at n) n,dq (aa.at n) n,du (aa.at n) n,iS (aa.at n) n,gN (aa.at n) n,mi (aa.at n) n,mj (aa.at n) n,bC (aa.at n) n,dI (aa.at n) n,ea (aa.at n) n,bY (aa.at n) n,bZ (aa.at n) n,b7 (aa.at n) n,fW (aa.at n) n,cX (aa.at n) n,cY (aa.at n) n,cZ (aa.at n) n,da (aa.at n) n,db (aa.at n) n,iz (aa.at n) n,dv (aa.at n) n,iT (aa.at n) n,pS (aa.at n) n,jN (aa.at n) n,jO (aa.at n) n⟩
def ff:=(aa.at n).ff
def fu:=(aa.at n).fu
def dG:=(aa.at n).dG
def aI:=(aa.at n).aI
def kV:=(aa.at n).kV
def bG:=(aa.at n).bG
def cQ:=(aa.at n).cQ
def iU:=(aa.at n).iU
def qU:=(aa.at n).qU
def bQ:=(aa.at n).bQ
def bR:=(aa.at n).bR
def dw:=(aa.at n).dw
def cH:=(aa.at n).cH
def cI:=(aa.at n).cI
def eO:=(aa.at n).eO
def dK:=(aa.at n).dK
def bH:=(aa.at n).bH
def bI:=(aa.at n).bI
def aZ:=(aa.at n).aZ
def bf:=(aa.at n).bf
def bW:=(aa.at n).bW
def bK:=(aa.at n).bK
def bL:=(aa.at n).bL
def bM:=(aa.at n).bM
def de:=(aa.at n).de
def cB:=(aa.at n).cB
def cC:=(aa.at n).cC
def cD:=(aa.at n).cD
def cF:=(aa.at n).cF
def cG:=(aa.at n).cG
def eA:=(aa.at n).eA
def cJ:=(aa.at n).cJ
def dH:=(aa.at n).dH
def cm:=(aa.at n).cm
def dj:=(aa.at n).dj
def dm:=(aa.at n).dm
def th:=au (aa.at n) n
def pf:=iF (aa.at n) n
def mJ:=fZ (aa.at n) n
def mK:=ga (aa.at n) n
def ml:=fR (aa.at n) n
def oX:=im (aa.at n) n
def oY:=iq (aa.at n) n
def rA:=jQ (aa.at n) n
def rB:=jR (aa.at n) n
def qV:=jL (aa.at n) n
def qW:=jM (aa.at n) n
def sC:=kH (aa.at n) n
def sD:=kI (aa.at n) n
def tR:=lY (aa.at n) n
def xY:=kU (aa.at n) n
def rC:=cO (aa.at n) n
def rD:=cN (aa.at n) n
def rE:=bB (aa.at n) n
def rF:=cM (aa.at n) n
def BG:=iw (aa.at n) n
def oM:=eC (aa.at n) n
def qX:=bO (aa.at n) n
def ma:=di (aa.at n) n
def qY:=bP (aa.at n) n
abbrev X3:aS:=⟨57,[vx,aq],[bU],υ2 (fu n)⟩
abbrev Lb:L1:=⟨[0,1,0,1,1,1,1],[(1,aq),(2,aG),(5,aG),(6,bU),(37,aq),(38,aq)],[],[7]++List.range' 38 8,0,λn=>υ6 (ff n)⟩
abbrev X4:aS:=⟨68,[bU,s9],[],υ2 (dG n)⟩
abbrev X5:aS:=⟨69,[aq,aq,aG,aG],[aq],υ4 (aI n)⟩
abbrev X6:aS:=⟨70,[vx,aq,vx,aq,OX],[aq],υ5 (kV n)⟩
abbrev X7:aS:=⟨81,[bU,aq,aq,aq,s9],[],υ5 (cQ n)⟩
abbrev Lc:Lr:=⟨[0,1,1],[(0,bU),(1,aq),(2,aq),(3,aq),(4,s9),(10,hS),(11,hS)],[],[1,2,3]++List.range' 10 138,λn=>υ7 (bG n)⟩
abbrev X8:aS:=⟨83,[vx,aq,vx,aq,OX],[aq],υ5 (qU n)⟩
abbrev Ld:L2:=⟨[0,1,0,1,1,1,1,1],[(0,vx),(2,vx),(4,OX),(11,vx),(12,vx),(14,bU),(15,bU),(93,aq),(94,aq)],[],[(10,aq)],[10,16,17,18]++List.range' 94 62,1,.ret,λn=>υ9 (iU n)⟩
abbrev P9:aS:=⟨107,[bU,aq,aq,s9],[],υ4 (dw n)⟩
abbrev Fx:L1:=⟨[0,1],[(0,bU),(1,aq),(2,aq),(3,s9),(8,aq)],[],[8,9]++List.range' 12 41,0,λn=>υ5 (bR n)⟩
abbrev Fy:L1:=⟨[0,1,0,0,1,0,0,1],[(0,bU),(1,aq),(2,aq),(3,s9),(8,aq),(9,aq)],[],[9]++List.range' 18 35,2,λn=>υ6 (bQ n)⟩
abbrev Qa:aS:=⟨108,[bU,aq,aq,s9],[],υ4 (eO n)⟩
abbrev FA:L1:=⟨[0,1,0,1,1,1],[(0,bU),(3,s9),(8,aq),(9,aq),(10,aq),(11,aq)],[],[11]++List.range' 20 10,0,λn=>υ6 (cH n)⟩
abbrev FB:L1:=⟨[0,1,1,1,1,1],[(0,bU),(3,s9),(8,aq),(9,aq),(12,aq)],[],[12]++List.range' 32 28,2,λn=>υ5 (cI n)⟩
abbrev Qb:aS:=⟨110,[bU,aq,aq,s9],[aq,aq],υ4 (dK n)⟩
abbrev Qc:aS:=⟨112,[bU,aq,aq,s9],[hS],υ4 (bW n)⟩
abbrev FC:L2:=⟨[0,1,0,1,1],[(0,bU),(1,aq),(2,aq),(3,s9),(9,aq),(10,aq)],[],[(8,hS)],List.range' 8 5++List.range' 15 126,0,.ret,λn=>υ6 (bf n)⟩
abbrev FD:L1:=⟨[0,0,0,0,1,0,0,1,0,1,1],[(0,bU),(1,aq),(2,aq),(3,s9),(9,aq),(10,aq)],[(9,aq)],[9]++List.range' 19 20,2,λn=>υ6 (aZ n)⟩
abbrev FE:L1:=⟨[0,1,0,1,0,1,1,1,1,0,0,1,0,0,1,0,1,1],[(0,bU),(1,aq),(2,aq),(3,s9),(9,aq),(10,aq),(11,aq)],[],[11]++List.range' 68 33,4,λn=>υ7 (bH n)⟩
abbrev FF:L1:=⟨[0,1,0,1,1,1,1,1,1,0,0,1,0,0,1,0,1,1],[(0,bU),(1,aq),(2,aq),(3,s9),(9,aq),(10,aq),(12,aq)],[],[12]++List.range' 107 34,6,λn=>υ7 (bI n)⟩
abbrev Qd:aS:=⟨113,[bU,aq,aq,aq,s9],[aq],υ5 (de n)⟩
abbrev FG:L1:=⟨[0,0,1,1,1],[(0,bU),(1,aq),(4,s9),(11,aq),(12,aq)],[(11,aq)],[11,12]++List.range' 31 58,0,λn=>υ5 (bM n)⟩
abbrev FH:L1:=⟨[0,0,0,0,0,0,1,1,1],[(0,bU),(1,aq),(4,s9),(11,aq),(12,aq)],[(11,aq)],[11]++List.range' 31 19,2,λn=>υ5 (bL n)⟩
abbrev FI:L1:=⟨[0,0,1,0,0,0,0,1,1,1],[(0,bU),(1,aq),(4,s9),(11,aq),(12,aq)],[(12,aq)],[12]++List.range' 50 18,4,λn=>υ5 (bK n)⟩
abbrev Qe:aS:=⟨114,[bU,aq,aq,aq,s9],[aq,hS],υ5 (eA n)⟩
abbrev FJ:L1:=⟨[0,0,1,1,1],[(0,bU),(1,aq),(4,s9),(12,aq),(13,aq)],[(12,aq)],[12]++List.range' 32 18,0,λn=>υ5 (cG n)⟩
abbrev FK:L1:=⟨[0,0,1,1,1,1],[(0,bU),(1,aq),(4,s9),(12,aq),(13,aq)],[(13,aq)],[13]++List.range' 50 19,2,λn=>υ5 (cF n)⟩
abbrev FL:L1:=⟨[0,0,1,1,1,1,1,1,1,1,1],[(0,bU),(1,aq),(4,s9),(12,aq),(13,aq)],[(13,aq)],[12,13]++List.range' 105 58,4,λn=>υ5 (cD n)⟩
abbrev FM:L1:=⟨[0,0,0,0,0,0,1,1,1,1,1,1,1,1,1],[(0,bU),(1,aq),(4,s9),(12,aq),(13,aq)],[(12,aq)],[12]++List.range' 105 18,6,λn=>υ5 (cC n)⟩
abbrev FN:L1:=⟨[0,0,1,0,0,0,0,1,1,1,1,1,1,1,1,1],[(0,bU),(1,aq),(4,s9),(12,aq),(13,aq)],[(13,aq)],[13]++List.range' 123 19,8,λn=>υ5 (cB n)⟩
abbrev Qf:aS:=⟨139,[bU,aq,aq,aq,s9],[],υ5 (dH n)⟩
abbrev FO:L2:=⟨[0,1],[(0,bU),(2,aq),(3,aq),(4,s9),(10,aq)],[],[],[10,11]++List.range' 13 69,0,.ret,λn=>υ5 (cJ n)⟩
abbrev Qg:aS:=⟨142,[bU,aq,vx,s9],[aq],υ4 (cm n)⟩
abbrev Qh:aS:=⟨143,[bU,aq,aq,aq,vx,s9],[aq],υ6 (dj n)⟩
abbrev Qi:aS:=⟨172,[bU,aq,aq,vx,s9],[aq,aq],υ5 (dm n)⟩
abbrev mL:List aS:=X3 n::X4 n::X5 n::X6 n::X7 n::X8 n::P9 n::Qa n::Qb n::Qc n::Qd n::Qe n::Qf n::Qg n::Qh n::Qi n::aix n
abbrev afZ:List (fT Sl):=[⟨[0,1,0,1,1,1,1,1],[.code [1,1,1,1,1,1]],[(1,aq),(2,aG),(5,aG),(6,bU)],υ4 (xY n)⟩]
def af0 (i:Nat):Option (List (Nat×η)):=Κ i 1 (Ω [5,13,0,1,2,3,4,6,7,8,9,10,11,12,14,15,16,17]) none
abbrev Qj:List jV:=[⟨84,[aq,aq],[aq],λx a=>th n x a.1 a.2⟩]
def X9 (i:Nat):Option (List (Nat×η)):=Κ i 17 (Ω [0,1,2,3,4,5,6,7,9,10,11,8,12,13,14,15,16]) none
abbrev U0:List (fT Unit):=[⟨[0,1,1,1,1,0,0,0,1,1],[.code [1,1,1,1,1,0,0,0,1,1],.av 1],[(0,bU),(1,aq),(2,aq),(3,aq),(4,s9),(10,hS),(11,hS),(12,aq)],υ8 (rC n)⟩, ⟨[0,0,1,1,1,1,1,1,0,0,0,1,1],[.code [1,0,1,1,1,1,1,1,0,0,0,1,1],.code [1,1,1,1,1,1,1,0,0,0,1,1],.av 1],[(0,bU),(1,aq),(2,aq),(3,aq),(4,s9),(10,hS),(11,hS),(12,aq),(13,aq),(14,aq)],υ10 (rD n)⟩, ⟨[0,0,1,1,1,1,1,1,1,0,0,0,1,1],[.code [1,0,1,1,1,1,1,1,1,0,0,0,1,1],.code [1,1,1,1,1,1,1,1,0,0,0,1,1],.av 1],[(0,bU),(1,aq),(2,aq),(3,aq),(4,s9),(10,hS),(11,hS),(12,aq),(13,aq)],υ9 (rE n)⟩, ⟨[0,1,1,1,1,1,1,1,1,0,0,0,1,1],[.code [1,1,1,1,1,1,1,1,1,0,0,0,1,1],.av 1],[(0,bU),(1,aq),(2,aq),(3,aq),(4,s9),(10,hS),(11,hS),(12,aq),(13,aq)],υ9 (rF n)⟩]
def Ya (i:Nat):Option (List (Nat×η)):=Κ i 1 (Ω [0,1,2,3,5,7,8,9,10,12,4,6,14,11,13,15]) (Κ i 2 (Ω [0,1,2,4,5,6,3,7,8,9]) (Κ i 4 (Ω [0,1,2,4,5,6,3,7,8,9]) (Κ i 6 (Ω [0,1,2,4,5,6,3,7,8,9]) (Κ i 10 (Ω [0,1,2,4,5,6,8,9,10,3,7,11,12,13]) (Κ i 18 (Ω [0,1,2,3,5,6,7,11,12,13,14,16,17,18,4,8,9,10,15,19,20,21,22,23]) (Κ i 21 (Ω [0,1,2,3,5,6,7,11,12,13,14,16,17,18,22,4,8,9,10,15,19,20,21,23,24]) none))))))
abbrev U1:List (fT (Unit⊕Int)):=[⟨[0,1,1,0,0,1,1,0,0,1,0,1,1,1,1,1],[.code [1,1,1,0,0,1,1,0,0,1,0,1,1,1,1,1],.av 2,.code [1,1,1,0,0,1,0,1,1,1,1,1]],[(0,vx),(2,vx),(4,OX),(11,vx),(12,vx),(14,bU),(15,bU),(16,aq),(93,aq),(94,aq)],υ10 (BG n)⟩]
abbrev FP:List jV:=[⟨22,[aq,aq],[aq],λx a=>pf n x a.1 a.2⟩]
def Le (i:Nat):Option (List (Nat×η)):=Κ i 4 (Ω [0,1,2,3,4,5,6,7,9,10,11,12,8,13,14,15,16]) (Κ i 6 (Ω [0,1,2,3,4,5,6,7,8,10,11,12,9,13,14,15,16,17]) none)
abbrev Qk:List (fT Unit):=[⟨[0,0,1,0,0,1,0,0,1,0,0,1],[.av 3,.code [1,1,0,0,1,0,0,1,0,0,1]],[(0,bU),(1,aq),(2,aq),(3,s9),(8,aq),(9,aq)],υ6 (oM n)⟩]
def Lf (i:Nat):Option (List (Nat×η)):=Κ i 10 (Ω [0,1,2,3,4,5,6,7,8,9,10,12,13,14,11,15,16,17,18,19]) none
abbrev abA:List (fT (Int×Int)):=[⟨[0,1,1,1,1,1,1,1],[.code [1,1,1,1,1,1,1,1]],[(11,aG),(13,aq)],υ2 (qX n)⟩]
abbrev Ae:List jV:=[⟨23,[aq,aq],[aq],λx a=>mJ n x a.1 a.2⟩, ⟨72,[aq,aq],[aq],λx a=>mK n x a.1 a.2⟩, ⟨112,[aq,aq],[aq],λx a=>ml n x a.1 a.2⟩]
def Cy (i:Nat):Option (List (Nat×η)):=Κ i 5 (Ω [0,1,2,3,4,5,6,7,9,10,11,12,8,13,14,15,16,17]) (Κ i 11 (Ω [0,1,2,3,4,5,6,7,8,10,11,12,9,13,14,15,16,17]) (Κ i 16 (Ω [0,1,2,3,5,6,7,8,4,9,10,11,12]) (Κ i 17 (Ω [0,1,2,3,4,5,6,7,8,10,11,12,9,13,14,15,16,17]) (Κ i 22 (Ω [0,1,2,3,5,6,7,8,4,9,10,11,12]) (Κ i 23 (Ω [0,1,2,3,4,5,6,7,8,10,11,12,9,13,14,15,16,17]) none)))))
abbrev Ql:List (fT (Unit⊕Bool)):=[⟨[0,1,1,1,1,1,0,0,1,0,0,1,0,1,1],[.code [1,1,1,1,1,1,0,0,1,0,0,1,0,1,1],.av 1,.code [1,1,0,0,1,0,1,1]],[(0,bU),(1,aq),(2,aq),(3,s9),(9,aq),(10,aq)],υ6 (ma n)⟩]
abbrev Cz:List jV:=[⟨35,[aq,aq],[aq],λx a=>oX n x a.1 a.2⟩, ⟨54,[aq,aq],[aq],λx a=>oY n x a.1 a.2⟩]
def FQ (i:Nat):Option (List (Nat×η)):=Κ i 1 (Ω [0,1,2,3,4,5,6,8,9,10,7,11,12,13,14,15]) (Κ i 3 (Ω [0,1,2,3,4,5,6,7,9,10,11,8,12,13,14,15,16]) (Κ i 5 (Ω [0,1,2,3,4,5,6,7,9,10,11,8,12,13,14,15]) (Κ i 8 (Ω [0,1,2,3,4,5,6,8,9,10,7,11,12,13,14,15]) none)))
abbrev xZ:List jV:=[⟨36,[aq,aq],[aq],λx a=>rA n x a.1 a.2⟩, ⟨54,[aq,aq],[aq],λx a=>rB n x a.1 a.2⟩, ⟨109,[aq,aq],[aq],λx a=>qV n x a.1 a.2⟩, ⟨127,[aq,aq],[aq],λx a=>qW n x a.1 a.2⟩]
def Ag (i:Nat):Option (List (Nat×η)):=Κ i 1 (Ω [0,1,2,3,4,5,6,8,9,10,7,11,12,13,14,15]) (Κ i 3 (Ω [0,1,2,3,4,5,6,7,9,10,11,8,12,13,14,15]) (Κ i 5 (Ω [0,1,2,3,4,5,6,7,9,10,11,8,12,13,14,15,16]) (Κ i 8 (Ω [0,1,2,3,4,5,6,8,9,10,7,11,12,13,14,15]) (Κ i 10 (Ω [0,1,2,3,4,5,6,8,9,10,7,11,12,13,14,15]) (Κ i 13 (Ω [0,1,2,3,4,5,6,7,9,10,11,8,12,13,14,15]) (Κ i 15 (Ω [0,1,2,3,4,5,6,7,9,10,11,8,12,13,14,15,16]) (Κ i 18 (Ω [0,1,2,3,4,5,6,8,9,10,7,11,12,13,14,15]) (Κ i 21 (Ω [0,1,2,3,4,5,6,8,9,10,7,11,12,13,14,15]) none))))))))
abbrev Lg:List jV:=[⟨24,[aq,aq],[aq],λx a=>sC n x a.1 a.2⟩, ⟨43,[aq,aq],[aq],λx a=>sD n x a.1 a.2⟩]
def R9 (i:Nat):Option (List (Nat×η)):=Κ i 3 (Ω [0,1,2,3,4,5,6,7,8,9,10,12,13,14,15,16,17,11,18,19,20,21]) (Κ i 5 (Ω [0,1,2,3,4,5,7,8,9,10,11,6,12,13,14,15]) (Κ i 6 (Ω [0,1,2,3,4,5,6,7,8,9,10,11,12,14,15,16,17,18,13,19,20,21,22,23]) none))
abbrev Qm:List (fT (Unit⊕Unit)):=[⟨[0,0,1,1,1,0,0,0,1],[.code [1,0,1,1,1,0,0,0,1],.code [1,1,1,1,0,0,0,1],.av 1],[(0,bU),(2,aq),(3,aq),(4,s9),(10,aq),(11,aq)],υ6 (qY n)⟩]
abbrev Sa:List jV:=[⟨12,[aq,aq],[aq],λx a=>tR n x a.1 a.2⟩]
def abB (i:Nat):Option (List (Nat×η)):=Κ i 1 (Ω [0,1,2,3,5,6,7,4,8,9,10]) none
def aj:Prop:=aF TZp (X3 n)/\aF TZp (X4 n)/\aF TZp (X5 n)/\aF TZp (X6 n)/\aF TZp (X7 n)/\aF TZp (X8 n)/\aF TZp (P9 n)/\aF TZp (Qa n)/\aF TZp (Qb n)/\aF TZp (Qc n)/\aF TZp (Qd n)/\aF TZp (Qe n)/\aF TZp (Qf n)/\aF TZp (Qg n)/\aF TZp (Qh n)/\aF TZp (Qi n)
theorem ef (H:aj n):aC TZp (mL n):=.cons H.1 (.cons H.2.1 (.cons H.2.2.1 (.cons H.2.2.2.1 (.cons H.2.2.2.2.1 (.cons H.2.2.2.2.2.1 (.cons H.2.2.2.2.2.2.1 (.cons H.2.2.2.2.2.2.2.1 (.cons H.2.2.2.2.2.2.2.2.1 (.cons H.2.2.2.2.2.2.2.2.2.1 (.cons H.2.2.2.2.2.2.2.2.2.2.1 (.cons H.2.2.2.2.2.2.2.2.2.2.2.1 (.cons H.2.2.2.2.2.2.2.2.2.2.2.2.1 (.cons H.2.2.2.2.2.2.2.2.2.2.2.2.2.1 (.cons H.2.2.2.2.2.2.2.2.2.2.2.2.2.2.1 (.cons H.2.2.2.2.2.2.2.2.2.2.2.2.2.2.2 (alw n))))))))))))))))
theorem U2 (H:∀m,m<n->aj m):iJ TZp f57 (Lb.e n) Lb.ws:=L1.ok f57 Lb n mL (hT:=λm hm=>.m1 (ef m (H m hm)))
theorem uA (H:∀m,m<n+1->aj m):aF TZp (X3 (n+1)):=aY f57 (mL n) (ll:=[Lb.e n]) (js:=afZ n) (hT:=⟨.nil,ef n (H n (aad n)),.nil,(.cc (U2 n (λk hk=>H k (acy hk))) .nil),(.cc .nil)⟩)
theorem rG (H:∀m,m<n+1->aj m):aF TZp (X4 (n+1)):=aY f68 (mL n) (hT:=.m1 (ef n (H n (aad n))))
theorem tj (H:∀m,m<n+1->aj m):aF TZp (X5 (n+1)):=aY f69 (mL n) (dr:=af0) (hT:=.m1 (ef n (H n (aad n))))
theorem yU (H:∀m,m<n+1->aj m):aF TZp (X6 (n+1)):=aY f70 (mL n) (hT:=.m1 (ef n (H n (aad n))))
theorem Yb (H:aj n):qc TZp (Qj n):=.cons (dB (l:=[⟨69,[aG,aG],λa c=>aI n a.1 a.2 c.1 c.2⟩]) (.cons (λa c=>aL (by kernel_rfl) ((H).2.2.1 (a.1,a.2,c.1,c.2))) .nil) (λx a=>by kernel_rfl)) .nil
theorem U3 (H:∀m,m<n->aj m):iJ TZp f81 (Lc.e n) Lc.ws:=Lr.ok f81 Lc n mL (dt:=Qj) (dr:=X9) (jt:=U0) (hT:=λm hm=>⟨.nil,ef m (H m hm),(Yb m (H m hm)),.nil,(.cc (.cc (.cc (.cc .nil))))⟩)
theorem qe (H:∀m,m<n+1->aj m):aF TZp (X7 (n+1)):=aY f81 (mL n) (dl:=Qj n) (ll:=[Lc.e n]) (dr:=X9) (hT:=⟨.nil,ef n (H n (aad n)),(Yb n (H n (aad n))),(.cc (U3 n (λk hk=>H k (acy hk))) .nil),.nil⟩)
theorem U4 (H:∀m,m<n->aj m):iJ TZp f83 (Ld.e n) Ld.ws:=L2.ok f83 Ld n mL (dr:=Ya) (jt:=U1) (hT:=λm hm=>⟨.nil,ef m (H m hm),.nil,.nil,(.cc .nil)⟩)
theorem zM (H:∀m,m<n+1->aj m):aF TZp (X8 (n+1)):=aY f83 (mL n) (ll:=[Ld.e n]) (dr:=Ya) (hT:=⟨.nil,ef n (H n (aad n)),.nil,(.cc (U4 n (λk hk=>H k (acy hk))) .nil),.nil⟩)
theorem Lh (H:aj n):qc TZp (FP n):=.cons (dB (l:=[⟨69,[aG,aG],λa c=>aI n a.1 a.2 c.1 c.2⟩]) (.cons (λa c=>aL (by kernel_rfl) ((H).2.2.1 (a.1,a.2,c.1,c.2))) .nil) (λx a=>by kernel_rfl)) .nil
theorem Qn (H:∀m,m<n->aj m):iJ TZp f107 (Fy.e n) Fy.ws:=L1.ok f107 Fy n mL (dt:=FP) (dr:=Le) (jt:=Qk) (hT:=λm hm=>⟨.nil,ef m (H m hm),(Lh m (H m hm)),.nil,(.cc .nil)⟩)
theorem Qo (H:∀m,m<n->aj m):iJ TZp f107 (Fx.e n) Fx.ws:=L1.ok f107 Fx n mL (dt:=FP) (lt:=λn=>[Fy.e n]) (dr:=Le) (hT:=λm hm=>⟨.nil,ef m (H m hm),(Lh m (H m hm)),(.cc (Qn m (λk hk=>H k (aiu hk hm))) .nil),.nil⟩)
theorem nT (H:∀m,m<n+1->aj m):aF TZp (P9 (n+1)):=aY f107 (mL n) (dl:=FP n) (ll:=[Fx.e n]) (dr:=Le) (hT:=⟨.nil,ef n (H n (aad n)),(Lh n (H n (aad n))),(.cc (Qo n (λk hk=>H k (acy hk))) .nil),.nil⟩)
theorem Qp (H:∀m,m<n->aj m):iJ TZp f108 (FA.e n) FA.ws:=L1.ok f108 FA n mL (dr:=Lf) (hT:=λm hm=>.m1 (ef m (H m hm)))
theorem Qq (H:∀m,m<n->aj m):iJ TZp f108 (FB.e n) FB.ws:=L1.ok f108 FB n mL (dr:=Lf) (hT:=λm hm=>.m1 (ef m (H m hm)))
theorem pT (H:∀m,m<n+1->aj m):aF TZp (Qa (n+1)):=aY f108 (mL n) (ll:=[FA.e n,FB.e n]) (dr:=Lf) (hT:=⟨.nil,ef n (H n (aad n)),.nil,(.cc (Qp n (λk hk=>H k (acy hk))) (.cc (Qq n (λk hk=>H k (acy hk))) .nil)),.nil⟩)
theorem oN (H:∀m,m<n+1->aj m):aF TZp (Qb (n+1)):=aY f110 (mL n) (js:=abA n) (hT:=⟨.nil,ef n (H n (aad n)),.nil,.nil,(.cc .nil)⟩)
theorem CA (H:aj n):qc TZp (Ae n):=.cons (dB (l:=[⟨69,[aG,aG],λa c=>aI n a.1 a.2 c.1 c.2⟩]) (.cons (λa c=>aL (by kernel_rfl) ((H).2.2.1 (a.1,a.2,c.1,c.2))) .nil) (λx a=>by kernel_rfl)) (.cons (dB (l:=[⟨69,[aG,aG],λa c=>aI n a.1 a.2 c.1 c.2⟩]) (.cons (λa c=>aL (by kernel_rfl) ((H).2.2.1 (a.1,a.2,c.1,c.2))) .nil) (λx a=>by kernel_rfl)) (.cons (dB (l:=[⟨69,[aG,aG],λa c=>aI n a.1 a.2 c.1 c.2⟩]) (.cons (λa c=>aL (by kernel_rfl) ((H).2.2.1 (a.1,a.2,c.1,c.2))) .nil) (λx a=>by kernel_rfl)) .nil))
theorem Qr (H:∀m,m<n->aj m):iJ TZp f112 (FE.e n) FE.ws:=L1.ok f112 FE n mL (dt:=Ae) (dr:=Cy) (hT:=λm hm=>⟨.nil,ef m (H m hm),(CA m (H m hm)),.nil,.nil⟩)
theorem Qs (H:∀m,m<n->aj m):iJ TZp f112 (FF.e n) FF.ws:=L1.ok f112 FF n mL (dt:=Ae) (dr:=Cy) (hT:=λm hm=>⟨.nil,ef m (H m hm),(CA m (H m hm)),.nil,.nil⟩)
theorem Qt (H:∀m,m<n->aj m):iJ TZp f112 (FD.e n) FD.ws:=L1.ok f112 FD n mL (dt:=Ae) (dr:=Cy) (hT:=λm hm=>⟨.nil,ef m (H m hm),(CA m (H m hm)),.nil,.nil⟩)
theorem Qu (H:∀m,m<n->aj m):iJ TZp f112 (FC.e n) FC.ws:=L2.ok f112 FC n mL (dt:=Ae) (lt:=λn=>[FD.e n,FE.e n,FF.e n]) (dr:=Cy) (jt:=Ql) (hT:=λm hm=>⟨.nil,ef m (H m hm),(CA m (H m hm)),(.cc (Qt m (λk hk=>H k (aiu hk hm))) (.cc (Qr m (λk hk=>H k (aiu hk hm))) (.cc (Qs m (λk hk=>H k (aiu hk hm))) .nil))),(.cc .nil)⟩)
theorem kW (H:∀m,m<n+1->aj m):aF TZp (Qc (n+1)):=aY f112 (mL n) (dl:=Ae n) (ll:=[FC.e n]) (dr:=Cy) (hT:=⟨.nil,ef n (H n (aad n)),(CA n (H n (aad n))),(.cc (Qu n (λk hk=>H k (acy hk))) .nil),.nil⟩)
theorem FR (H:aj n):qc TZp (Cz n):=.cons (dB (l:=[⟨69,[aG,aG],λa c=>aI n a.1 a.2 c.1 c.2⟩]) (.cons (λa c=>aL (by kernel_rfl) ((H).2.2.1 (a.1,a.2,c.1,c.2))) .nil) (λx a=>by kernel_rfl)) (.cons (dB (l:=[⟨69,[aG,aG],λa c=>aI n a.1 a.2 c.1 c.2⟩]) (.cons (λa c=>aL (by kernel_rfl) ((H).2.2.1 (a.1,a.2,c.1,c.2))) .nil) (λx a=>by kernel_rfl)) .nil)
theorem Qv (H:∀m,m<n->aj m):iJ TZp f113 (FI.e n) FI.ws:=L1.ok f113 FI n mL (dt:=Cz) (dr:=FQ) (hT:=λm hm=>⟨.nil,ef m (H m hm),(FR m (H m hm)),.nil,.nil⟩)
theorem Qw (H:∀m,m<n->aj m):iJ TZp f113 (FH.e n) FH.ws:=L1.ok f113 FH n mL (dt:=Cz) (dr:=FQ) (hT:=λm hm=>⟨.nil,ef m (H m hm),(FR m (H m hm)),.nil,.nil⟩)
theorem Qx (H:∀m,m<n->aj m):iJ TZp f113 (FG.e n) FG.ws:=L1.ok f113 FG n mL (dt:=Cz) (lt:=λn=>[FH.e n,FI.e n]) (dr:=FQ) (hT:=λm hm=>⟨.nil,ef m (H m hm),(FR m (H m hm)),(.cc (Qw m (λk hk=>H k (aiu hk hm))) (.cc (Qv m (λk hk=>H k (aiu hk hm))) .nil)),.nil⟩)
theorem nI (H:∀m,m<n+1->aj m):aF TZp (Qd (n+1)):=aY f113 (mL n) (dl:=Cz n) (ll:=[FG.e n]) (dr:=FQ) (hT:=⟨.nil,ef n (H n (aad n)),(FR n (H n (aad n))),(.cc (Qx n (λk hk=>H k (acy hk))) .nil),.nil⟩)
theorem Ah (H:aj n):qc TZp (xZ n):=.cons (dB (l:=[⟨69,[aG,aG],λa c=>aI n a.1 a.2 c.1 c.2⟩]) (.cons (λa c=>aL (by kernel_rfl) ((H).2.2.1 (a.1,a.2,c.1,c.2))) .nil) (λx a=>by kernel_rfl)) (.cons (dB (l:=[⟨69,[aG,aG],λa c=>aI n a.1 a.2 c.1 c.2⟩]) (.cons (λa c=>aL (by kernel_rfl) ((H).2.2.1 (a.1,a.2,c.1,c.2))) .nil) (λx a=>by kernel_rfl)) (.cons (dB (l:=[⟨69,[aG,aG],λa c=>aI n a.1 a.2 c.1 c.2⟩]) (.cons (λa c=>aL (by kernel_rfl) ((H).2.2.1 (a.1,a.2,c.1,c.2))) .nil) (λx a=>by kernel_rfl)) (.cons (dB (l:=[⟨69,[aG,aG],λa c=>aI n a.1 a.2 c.1 c.2⟩]) (.cons (λa c=>aL (by kernel_rfl) ((H).2.2.1 (a.1,a.2,c.1,c.2))) .nil) (λx a=>by kernel_rfl)) .nil)))
theorem Qy (H:∀m,m<n->aj m):iJ TZp f114 (FN.e n) FN.ws:=L1.ok f114 FN n mL (dt:=xZ) (dr:=Ag) (hT:=λm hm=>⟨.nil,ef m (H m hm),(Ah m (H m hm)),.nil,.nil⟩)
theorem Qz (H:∀m,m<n->aj m):iJ TZp f114 (FM.e n) FM.ws:=L1.ok f114 FM n mL (dt:=xZ) (dr:=Ag) (hT:=λm hm=>⟨.nil,ef m (H m hm),(Ah m (H m hm)),.nil,.nil⟩)
theorem QA (H:∀m,m<n->aj m):iJ TZp f114 (FL.e n) FL.ws:=L1.ok f114 FL n mL (dt:=xZ) (lt:=λn=>[FM.e n,FN.e n]) (dr:=Ag) (hT:=λm hm=>⟨.nil,ef m (H m hm),(Ah m (H m hm)),(.cc (Qz m (λk hk=>H k (aiu hk hm))) (.cc (Qy m (λk hk=>H k (aiu hk hm))) .nil)),.nil⟩)
theorem QB (H:∀m,m<n->aj m):iJ TZp f114 (FK.e n) FK.ws:=L1.ok f114 FK n mL (dt:=xZ) (dr:=Ag) (hT:=λm hm=>⟨.nil,ef m (H m hm),(Ah m (H m hm)),.nil,.nil⟩)
theorem QC (H:∀m,m<n->aj m):iJ TZp f114 (FJ.e n) FJ.ws:=L1.ok f114 FJ n mL (dt:=xZ) (dr:=Ag) (hT:=λm hm=>⟨.nil,ef m (H m hm),(Ah m (H m hm)),.nil,.nil⟩)
theorem pg (H:∀m,m<n+1->aj m):aF TZp (Qe (n+1)):=aY f114 (mL n) (dl:=xZ n) (ll:=[FJ.e n,FK.e n,FL.e n]) (dr:=Ag) (hT:=⟨.nil,ef n (H n (aad n)),(Ah n (H n (aad n))),(.cc (QC n (λk hk=>H k (acy hk))) (.cc (QB n (λk hk=>H k (acy hk))) (.cc (QA n (λk hk=>H k (acy hk))) .nil))),.nil⟩)
theorem Sb (H:aj n):qc TZp (Lg n):=.cons (dB (l:=[⟨69,[aG,aG],λa c=>aI n a.1 a.2 c.1 c.2⟩]) (.cons (λa c=>aL (by kernel_rfl) ((H).2.2.1 (a.1,a.2,c.1,c.2))) .nil) (λx a=>by kernel_rfl)) (.cons (dB (l:=[⟨69,[aG,aG],λa c=>aI n a.1 a.2 c.1 c.2⟩]) (.cons (λa c=>aL (by kernel_rfl) ((H).2.2.1 (a.1,a.2,c.1,c.2))) .nil) (λx a=>by kernel_rfl)) .nil)
theorem QD (H:∀m,m<n->aj m):iJ TZp f139 (FO.e n) FO.ws:=L2.ok f139 FO n mL (dt:=Lg) (dr:=R9) (jt:=Qm) (hT:=λm hm=>⟨.nil,ef m (H m hm),(Sb m (H m hm)),.nil,(.cc .nil)⟩)
theorem pU (H:∀m,m<n+1->aj m):aF TZp (Qf (n+1)):=aY f139 (mL n) (dl:=Lg n) (ll:=[FO.e n]) (dr:=R9) (hT:=⟨.nil,ef n (H n (aad n)),(Sb n (H n (aad n))),(.cc (QD n (λk hk=>H k (acy hk))) .nil),.nil⟩)
theorem nJ (H:∀m,m<n+1->aj m):aF TZp (Qg (n+1)):=aY f142 (mL n) (hT:=.m1 (ef n (H n (aad n))))
theorem qZ (H:∀m,m<n+1->aj m):aF TZp (Qh (n+1)):=aY f143 (mL n) (hT:=.m1 (ef n (H n (aad n))))
theorem abC (H:aj n):qc TZp (Sa n):=.cons (dB (l:=[⟨69,[aG,aG],λa c=>aI n a.1 a.2 c.1 c.2⟩]) (.cons (λa c=>aL (by kernel_rfl) ((H).2.2.1 (a.1,a.2,c.1,c.2))) .nil) (λx a=>by kernel_rfl)) .nil
theorem re (H:∀m,m<n+1->aj m):aF TZp (Qi (n+1)):=aY f172 (mL n) (dl:=Sa n) (dr:=abB) (hT:=⟨.nil,ef n (H n (aad n)),(abC n (H n (aad n))),.nil,.nil⟩)
theorem vB:∀n m,m<n->aj m:=by
 intro n
 induction n with
 |zero=>intro m hm;exact absurd hm (aji m)
 |succ n ih=>
  intro m hm;cases m with
  |zero=>exact⟨gr (fn:=f57) (by kernel_rfl) (by kernel_rfl) (by kernel_rfl) (λ_=>rfl),gr (fn:=f68) (by kernel_rfl) (by kernel_rfl) (by kernel_rfl) (λ_=>rfl),gr (fn:=f69) (by kernel_rfl) (by kernel_rfl) (by kernel_rfl) (λ_=>rfl),gr (fn:=f70) (by kernel_rfl) (by kernel_rfl) (by kernel_rfl) (λ_=>rfl),gr (fn:=f81) (by kernel_rfl) (by kernel_rfl) (by kernel_rfl) (λ_=>rfl),gr (fn:=f83) (by kernel_rfl) (by kernel_rfl) (by kernel_rfl) (λ_=>rfl),gr (fn:=f107) (by kernel_rfl) (by kernel_rfl) (by kernel_rfl) (λ_=>rfl),gr (fn:=f108) (by kernel_rfl) (by kernel_rfl) (by kernel_rfl) (λ_=>rfl),gr (fn:=f110) (by kernel_rfl) (by kernel_rfl) (by kernel_rfl) (λ_=>rfl),gr (fn:=f112) (by kernel_rfl) (by kernel_rfl) (by kernel_rfl) (λ_=>rfl),gr (fn:=f113) (by kernel_rfl) (by kernel_rfl) (by kernel_rfl) (λ_=>rfl),gr (fn:=f114) (by kernel_rfl) (by kernel_rfl) (by kernel_rfl) (λ_=>rfl),gr (fn:=f139) (by kernel_rfl) (by kernel_rfl) (by kernel_rfl) (λ_=>rfl),gr (fn:=f142) (by kernel_rfl) (by kernel_rfl) (by kernel_rfl) (λ_=>rfl),gr (fn:=f143) (by kernel_rfl) (by kernel_rfl) (by kernel_rfl) (λ_=>rfl),gr (fn:=f172) (by kernel_rfl) (by kernel_rfl) (by kernel_rfl) (λ_=>rfl)⟩
  |succ k=>exact⟨uA k λm hm=>ih m (by omega),rG k λm hm=>ih m (by omega),tj k λm hm=>ih m (by omega),yU k λm hm=>ih m (by omega),qe k λm hm=>ih m (by omega),zM k λm hm=>ih m (by omega),nT k λm hm=>ih m (by omega),pT k λm hm=>ih m (by omega),oN k λm hm=>ih m (by omega),kW k λm hm=>ih m (by omega),nI k λm hm=>ih m (by omega),pg k λm hm=>ih m (by omega),pU k λm hm=>ih m (by omega),nJ k λm hm=>ih m (by omega),qZ k λm hm=>ih m (by omega),re k λm hm=>ih m (by omega)⟩
theorem alx:aC TZp (mL n):=ef n (vB (n+1) n (aad n))
structure aQ where
 eP:θ->θ->θ->ζ->Sl->Int->Int->M Unit
 fE:θ->θ->Int->M Unit
def fj (G:aQ)(n:Nat)(a0 a1 a2:θ)(a3:ζ)(a4:Int)(a5:Sl)(a6 a7:Int):M Unit:=sh (nn a2) λx0=>L15 (x0.plus 4) λx1=>L12 x1 a4 1 λx2=>L10 x2 λx3=>sh (G.fE a0 a1 x3) λx4=>G.eP a0 a1 a2 a3 a5 a6 (i64.wrap (a7+1))
def fk (G:aQ)(n:Nat)(a0 a1 a2:θ)(a3:ζ)(a4:Int)(a5:Sl)(a6 a7:Int):M Unit:=sh (nn a2) λx0=>L10 (x0.plus 0) λx1=>if decide (x1=10) then sh (nn a2) λx2=>L15 (x2.plus 3) λx3=>L12 x3 a4 1 λx4=>L10 x4 λx5=>sh (G.fE a0 a1 x5) λx6=>sh (aB n a1 61) λx7=>fj G n a0 a1 a2 a3 a4 a5 a6 a7 else fj G n a0 a1 a2 a3 a4 a5 a6 a7
def mM (G:aQ)(n:Nat)(a0 a1 a2:θ)(a3:ζ)(a4:Sl)(a5 a6:Int):M Unit:=if decide (a6<a5) then L12 a4 a6 1 λx0=>L10 x0 λx1=>if decide (0<a6) then sh (aB n a1 44) λx2=>fk G n a0 a1 a2 a3 x1 a4 a5 a6 else fk G n a0 a1 a2 a3 x1 a4 a5 a6 else AI ()
def fh (G:aQ)(n:Nat)(a0 a1:θ)(a2:Int)(a3:θ)(a4:ζ):M Unit:=sh (jy a4 0) λx0=>sh (aB n a1 (↑x0.toNat:Int)) λx1=>sh (fu n a0 a2) λx2=>sh (G.eP a0 a1 a3 a4 x2 (↑x2.len:Int) 0) λx3=>sh (jy a4 1) λx4=>sh (aB n a1 (↑x4.toNat:Int)) λx5=>AI ()
def oZ (G:aQ)(n:Nat)(a0 a1:θ)(a2:Int):M Unit:=sh (nn a0) λx0=>L15 ((x0.plus 0).plus 0) λx1=>L12 x1 a2 5 λx2=>sh (nn (some x2)) λx3=>L10 (x3.plus 0) λx4=>if decide (x4=11) then sh (nn (some x2)) λx5=>L11 (x5.plus 1) λx6=>sh (kY (ofBytes [33]) x6) λx7=>sh (kY x7 (ofBytes [40])) λx8=>sh (ep n a1 x8) λx9=>sh (nn (some x2)) λx10=>L15 (x10.plus 4) λx11=>L12 x11 0 1 λx12=>L10 x12 λx13=>sh (G.fE a0 a1 x13) λx14=>sh (aB n a1 41) λx15=>AI () else sh (nn (some x2)) λx5=>L10 (x5.plus 0) λx6=>if decide (x6<9) then sh (vh n (some x2)) λx7=>sh (ep n a1 x7) λx8=>AI () else sh (nn (some x2)) λx7=>L10 (x7.plus 0) λx8=>if decide (x8=10) then sh (nn (some x2)) λx9=>L19 (x9.plus 2) λx10=>if x10 then fh G n a0 a1 a2 (some x2) (ofBytes [60,62]) else fh G n a0 a1 a2 (some x2) (ofBytes [123,125]) else fh G n a0 a1 a2 (some x2) (ofBytes [91,93])
def aQ.at:Nat->aQ|0=>⟨λ_ _ _ _ _ _ _=>AS,λ_ _ _=>AS⟩|n+1=>⟨mM (aQ.at n) n,oZ (aQ.at n) n⟩
def eP:=(aQ.at n).eP
def fE:=(aQ.at n).fE
def w4:=fk (aQ.at n) n
def w5:=fj (aQ.at n) n
def zN:=fh (aQ.at n) n
abbrev Yc:aS:=⟨45,[vx,vx,aq],[],υ3 (fE n)⟩
abbrev Li:L1:=⟨[0,1,0,1,1,1,1,1],[(0,vx),(1,vx),(6,vx),(7,oz),(67,bU),(68,aq),(69,aq)],[],[8,9]++List.range' 69 37,1,λn=>υ7 (eP n)⟩
abbrev QE:List aS:=Yc n::mL n
abbrev U5:List (fT Unit):=[⟨[0,0,1,1,0,0,1,1,0,0,1,0,1,1,1,1,1],[.code [1,0,1,1,0,0,1,1,0,0,1,0,1,1,1,1,1],.code [1,1,1,0,0,1,1,0,0,1,0,1,1,1,1,1],.av 2,.code [1,1,1,0,0,1,0,1,1,1,1,1]],[(0,vx),(1,vx),(6,vx),(7,oz),(9,aq),(67,bU),(68,aq),(69,aq)],υ8 (w4 n)⟩, ⟨[1,1,1,0,0,1,1,0,0,1,0,1,1,1,1,1],[.av 2,.code [1,1,1,0,0,1,0,1,1,1,1,1]],[(0,vx),(1,vx),(6,vx),(7,oz),(9,aq),(67,bU),(68,aq),(69,aq)],υ8 (w5 n)⟩]
abbrev af1:List (fT Unit):=[⟨[0,1,1,1,1],[.code [1,1,1,1,1]],[(0,vx),(1,vx),(2,aq),(6,vx),(7,oz)],υ5 (zN n)⟩]
def lh:Prop:=aF TZp (Yc n)
theorem QF (H:lh n):aC TZp (QE n):=.cons H (alx n)
theorem U6 (H:∀m,m<n->lh m):iJ TZp f45 (Li.e n) Li.ws:=L1.ok f45 Li n QE (jt:=U5) (hT:=λm hm=>⟨.nil,QF m (H m hm),.nil,.nil,(.cc (.cc .nil))⟩)
theorem vC (H:∀m,m<n+1->lh m):aF TZp (Yc (n+1)):=aY f45 (QE n) (ll:=[Li.e n]) (js:=af1 n) (hT:=⟨.nil,QF n (H n (aad n)),.nil,(.cc (U6 n (λk hk=>H k (acy hk))) .nil),(.cc .nil)⟩)
theorem w6:∀n m,m<n->lh m:=by
 intro n
 induction n with
 |zero=>intro m hm;exact absurd hm (aji m)
 |succ n ih=>
  intro m hm;cases m with
  |zero=>exact gr (fn:=f45) (by kernel_rfl) (by kernel_rfl) (by kernel_rfl) (λ_=>rfl)
  |succ k=>exact vC k λm hm=>ih m (by omega)
theorem af2:aC TZp (QE n):=QF n (w6 (n+1) n (aad n))
def vn (G:τ52)(n:Nat):τ52:=λa0 a1 a2 a3 a4=>if decide (a4<a3) then L12 a2 a4 1 λx0=>sh (bD x0 [vi (-1)]) λx1=>G a0 a1 a2 a3 (i64.wrap (a4+1)) else AI ()
def oO:=lp0 vn
theorem CB:oO (n+1)=vn (oO n) n:=rfl
def w7 (a0:Sl×Int):M (ζ×Int):=sh (aJ none ao [aM a0.1,vi a0.2]) λx0=>L28 (ai x0) λx1=>sh (sT n x1) λx2=>if !decide (x2=0) then AI ((ofBytes []),x2) else L28 (ai x0) λx3=>sh (Cw n x3) λx4=>L15 ((ai x0).plus 0) λx5=>sh (vG none ar [vi 0] (↑x5.len:Int) (↑x5.len:Int)) λx6=>sh (oO n (ai x0) x4 x6 (↑x6.len:Int) 0) λx7=>L10 ((ai x0).plus 1) λx8=>sh (eM n x4 x8 x6) λx9=>if decide (65536<x9) then AI ((ofBytes []),6) else sh (aJ none fB [.pointer none,bF]) λx10=>L10 ((ai x0).plus 1) λx11=>sh (fE n x4 (some (ai x10)) x11) λx12=>sh (gD n (some (ai x10))) λx13=>AI (x13,0)
abbrev Lj:L1:=⟨[0,1,0,1,1,1,1],[(1,aG),(5,vx),(6,bU),(21,aq),(22,aq)],[],[7]++List.range' 22 7,0,λn=>υ5 (oO n)⟩
theorem U7:iJ TZp f32 (Lj.e n) Lj.ws:=L1.ok f32 Lj n QE (hT:=λm _=>.m1 (af2 m))
abbrev af3:List aS:=⟨32,[.agg [.sl,.int .i64]],[oz,aq],λx=>w7 n x⟩::QE n
theorem aiy:aC TZp (af3 n):=.cons (aY f32 (QE n) (ll:=[Lj.e n]) (hT:=⟨.nil,af2 n,.nil,(.cc (U7 n) .nil),.nil⟩)) (af2 n)
def pV (a0:Sl×Int)(a1:Int):M ζ:=sh (aJ none ao [aM a0.1,vi a0.2]) λx0=>L28 (ai x0) λx1=>sh (sA n x1 a1) λx2=>L32 λx3=>sh (bD (ai x3) [aM x2.1.1,vi x2.1.2]) λx4=>L28 (ai x3) λx5=>sh (w7 n x5) λx6=>AI x6.1
abbrev abD:List aS:=⟨24,[.agg [.sl,.int .i64],aq],[oz],υ2 (pV n)⟩::af3 n
theorem af4:aC TZp (abD n):=.cons (aY f24 (af3 n) (hT:=.m1 (aiy n))) (aiy n)
def vo (G:τ53)(n:Nat):τ53:=λa0 a1 a2=>if decide (0<a0) then L15 (a1.plus 4) λx0=>L12 x0 a0 9 λx1=>L13 x1 λx2=>L14 λx3=>sh (bD (ai x3) (V10 x2)) λx4=>sh (eU 14) λx5=>L15 ((a1.plus 2).plus 0) λx6=>L15 (a1.plus 4) λx7=>L10 ((ai x3).plus 1) λx8=>L12 x7 x8 9 λx9=>L10 (x9.plus 0) λx10=>L12 x6 x10 5 λx11=>L16 x11 λx12=>sh (aJ (some (x5+12)) aW [vi 0,.string (ofBytes []),.bool false,bF,bF]) λx13=>sh (bD (ai x13) [vi x12.1,.string x12.2.1,.bool x12.2.2.1,aM x12.2.2.2.1,aM x12.2.2.2.2]) λx14=>L10 ((ai x3).plus 2) λx15=>sh (aJ none aA [vi 0,.string (ofBytes [])]) λx16=>sh (bD (ai x16) [vi x15,.string (ofBytes [])]) λx17=>L10 ((ai x13).plus 0) λx18=>if decide (x18=10) then L28 (a1.plus 2) λx19=>L15 ((ai x13).plus 3) λx20=>L10 ((ai x3).plus 2) λx21=>L12 x20 x21 1 λx22=>L10 x22 λx23=>sh (pV n x19 x23) λx24=>sh (bD (ai x16) [vi 0,.string x24]) λx25=>L29 (ai x16) λx26=>sh (aJ none aA [vi x26.1,.string x26.2]) λx27=>sh (OU a2 2) λx28=>sh (app false { a:=some (ai x27),len:=1,cap:=2 } 2 50 a2.len x28) λx29=>L10 ((ai x3).plus 1) λx30=>G x30 a1 x29 else L29 (ai x16) λx19=>sh (aJ none aA [vi x19.1,.string x19.2]) λx20=>sh (OU a2 2) λx21=>sh (app false { a:=some (ai x20),len:=1,cap:=2 } 2 50 a2.len x21) λx22=>L10 ((ai x3).plus 1) λx23=>G x23 a1 x22 else AI a2
def mN:=lp0 vo
theorem CD:mN (n+1)=vo (mN n) n:=rfl
def sE (a0:Int×ζ×Sl×Int×Sl×Sl)(a1:Int):M (Sl×Int):=sh (aJ none fI [vi a0.1,.string a0.2.1,aM a0.2.2.1,vi a0.2.2.2.1,aM a0.2.2.2.2.1,aM a0.2.2.2.2.2]) λx0=>L31 (ai x0) λx1=>sh (iQ n x1) λx2=>if !decide (x2=0) then AI (uV,3) else if decide (a1<0) then AI (uV,2) else L15 ((ai x0).plus 4) λx3=>if decide ((↑x3.len:Int)<=a1) then AI (uV,2) else sh (mN n a1 (ai x0) uV) λx4=>AI (x4,0)
abbrev aiz:aS:=⟨7,[.agg [.int .i64,.str,.sl,.int .i64,.sl,.sl],aq],[bU,aq],υ2 (sE n)⟩
abbrev Sd:L1:=⟨[0,0,1,1,1,1],[(1,aq),(2,aG),(6,bU)],[(6,bU)],[1,6,7,8,9]++List.range' 22 41,0,λn=>υ3 (mN n)⟩
def aez (i:Nat):Option (List (Nat×η)):=Κ i 8 (Ω [0,1,3,5,2,4,6,7,8,9,10,11,12,13]) (Κ i 11 (Ω [0,2,4,1,3,5,6,7,8,9,10]) none)
theorem Yd:iJ TZp f7 (Sd.e n) Sd.ws:=L1.ok f7 Sd n abD (dr:=aez) (hT:=λm _=>.m1 (af4 m))
theorem CF:aF TZp (aiz n):=aY f7 (abD n) (ll:=[Sd.e n]) (dr:=aez) (hT:=⟨.nil,af4 n,.nil,(.cc (Yd n) .nil),.nil⟩)
abbrev af5:List aS:=aiz n::abD n
theorem aiA:aC TZp (af5 n):=.cons (CF n) (af4 n)
def nq (a0:Int×ζ×Sl×Int×Sl×Sl)(a1:Int):M Sl:=sh (aJ none fI [vi a0.1,.string a0.2.1,aM a0.2.2.1,vi a0.2.2.2.1,aM a0.2.2.2.2.1,aM a0.2.2.2.2.2]) λx0=>L31 (ai x0) λx1=>sh (iQ n x1) λx2=>if !decide (x2=0) then AI uV else if decide (a1<0) then AI uV else L15 ((ai x0).plus 4) λx3=>if decide ((↑x3.len:Int)<=a1) then AI uV else L31 (ai x0) λx4=>L31 (ai x0) λx5=>sh (oo [some (ai x0)] (kO n x5)) λx6=>sh (rK ar (Ty.one .sl) uV x6 (vi a1)) λ(x7:Bool×Sl)=>sh (qM n x4 x7.2) λx8=>AI x8
abbrev aiB:aS:=⟨9,[.agg [.int .i64,.str,.sl,.int .i64,.sl,.sl],aq],[bU],υ2 (nq n)⟩
def aiC (i:Nat):Option (List (Nat×η)):=Κ i 3 (Ω [3,0,1]++[(2,[0])]++Ω [4,5,6]) none
theorem w8:aF TZp (aiB n):=aY f9 (af5 n) (dr:=aiC) (hT:=.m1 (aiA n))
abbrev af6:List aS:=aiB n::af5 n
theorem aiD:aC TZp (af6 n):=.cons (w8 n) (aiA n)
def tn (n:Nat):M (Int×ζ×Sl×Int×Sl×Sl):=sh (aJ none fI [vi 0,.string (ofBytes []),bF,vi 0,bF,bF]) λx0=>sh (aJ none ar [vi 1,vi 2]) λx1=>sh (aJ none aW [vi 9,.string (ofBytes []),.bool false,bF,.slice (some (ai x1)) 2 3,vi 2,.string (ofBytes [55]),.bool false,bF,bF,vi 2,.string (ofBytes [56]),.bool false,bF,bF]) λx2=>sh (aJ none bJ [vi 0,vi (-1),vi 0,vi 0,vi 6,vi 0,vi 0,.bool false,.bool true,vi 1,vi 0,vi 0,vi 1,vi 2,vi 0,vi 0,.bool false,.bool true,vi 2,vi 0,vi 1,vi 4,vi 5,vi 0,vi 0,.bool false,.bool true]) λx3=>sh (bD (ai x0) [vi 0,.string (ofBytes [91,55,44,32,56,93]),.slice (some (ai x2)) 3 4,vi 0,.slice (some (ai x3)) 3 4,bF]) λx4=>L31 (ai x0) λx5=>AI x5
abbrev abE:List aS:=⟨11,[],[.agg [.int .i64,.str,.sl,.int .i64,.sl,.sl]],λ_=>tn n⟩::af6 n
theorem af7:aC TZp (abE n):=.cons (aY f11 (af6 n) (hT:=.m1 (aiD n))) (aiD n)
def Ll (G:τ54)(n:Nat):τ54:=λa0 a1 a2 a3 a4 a5=>if decide (a5<a4) then L12 a3 a5 9 λx0=>L13 x0 λx1=>L14 λx2=>sh (bD (ai x2) (V10 x1)) λx3=>L10 ((ai x2).plus 3) λx4=>if decide (x4<=a0) then L10 ((ai x2).plus 4) λx5=>if decide (a0<x5) then if decide (a2<0) then G a0 a1 a5 a3 a4 (i64.wrap (a5+1)) else L10 ((ai x2).plus 4) λx6=>L10 ((ai x2).plus 3) λx7=>L15 (a1.plus 4) λx8=>L12 x8 a2 9 λx9=>L10 (x9.plus 4) λx10=>L15 (a1.plus 4) λx11=>L12 x11 a2 9 λx12=>L10 (x12.plus 3) λx13=>if decide (i64.wrap (x6-x7)<=i64.wrap (x10-x13)) then G a0 a1 a5 a3 a4 (i64.wrap (a5+1)) else G a0 a1 a2 a3 a4 (i64.wrap (a5+1)) else G a0 a1 a2 a3 a4 (i64.wrap (a5+1)) else G a0 a1 a2 a3 a4 (i64.wrap (a5+1)) else AI a2
def BH:=lp0 Ll
def Se (a0:Int×ζ×Sl×Int×Sl×Sl)(a1:Int):M (Int×Bool):=sh (aJ none fI [vi a0.1,.string a0.2.1,aM a0.2.2.1,vi a0.2.2.2.1,aM a0.2.2.2.2.1,aM a0.2.2.2.2.2]) λx0=>L31 (ai x0) λx1=>sh (iQ n x1) λx2=>if !decide (x2=0) then AI (0,false) else L15 ((ai x0).plus 4) λx3=>sh (BH n a1 (ai x0) (-1) x3 (↑x3.len:Int) 0) λx4=>AI (if x4<0 then 0 else x4,decide (0<=x4))
abbrev Lm:L1:=⟨[0,1,0,1,1,1],[(1,aq),(2,aG),(6,aq),(13,bU),(14,aq),(15,aq)],[(6,aq)],[6,7,8]++List.range' 15 42,0,λn=>υ6 (BH n)⟩
def Ye (i:Nat):Option (List (Nat×η)):=Κ i 7 (Ω [0,2,1,3,4,5,6,7,8,9,10,11,12,13,14,16,19,21,25,27,15,17,18,20,22,23,24,26,28,29,30,31,32,33,34]) none
theorem U8:iJ TZp f12 (Lm.e n) Lm.ws:=L1.ok f12 Lm n abE (dr:=Ye) (hT:=λm _=>.m1 (af7 m))
abbrev af8:List aS:=⟨12,[.agg [.int .i64,.str,.sl,.int .i64,.sl,.sl],aq],[aq,hS],υ2 (Se n)⟩::abE n
theorem aiE:aC TZp (af8 n):=.cons (aY f12 (abE n) (ll:=[Lm.e n]) (dr:=Ye) (hT:=⟨.nil,af7 n,.nil,(.cc (U8 n) .nil),.nil⟩)) (af7 n)
end Go.Sh
