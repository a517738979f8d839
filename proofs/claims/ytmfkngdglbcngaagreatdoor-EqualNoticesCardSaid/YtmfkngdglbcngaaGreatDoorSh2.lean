
import Derived.Test.YtmfkngdglbcngaaGreatDoorSh1
set_option linter.all false
set_option maxRecDepth 100000
set_option maxHeartbeats 0
namespace Go.Sh
open Go Go.Ago Go.Proofs Go.IntKind
structure aa where
 fj:Int->Addr->Addr->Sl->Int->Int->M Unit
 dZ:θ->Int->M Sl
 dI:Sl->ξ->M Unit
 aO:Int->Int->Addr->Addr->M Int
 kT:θ->Int->θ->Int->μ->M Int
 bK:Sl->Int->Int->Int->ξ->Bool->Bool->M Unit
 cX:Sl->Int->Int->Int->ξ->M Unit
 iV:θ->θ->μ->θ->θ->Sl->Sl->Int->Int->M (Unit⊕Int)
 qI:θ->Int->θ->Int->μ->M Int
 bW:Sl->Int->Int->ξ->Int->Int->M Unit
 bX:Sl->Int->Int->ξ->Int->M Unit
 dF:Sl->Int->Int->ξ->M Unit
 cO:Sl->ξ->Int->Int->Int->Int->M Unit
 cP:Sl->ξ->Int->Int->Int->M Unit
 eS:Sl->Int->Int->ξ->M Unit
 dO:Sl->Int->Int->ξ->M (Int×Int)
 bL:Sl->Int->Int->ξ->Int->Int->Int->M Unit
 bM:Sl->Int->Int->ξ->Int->Int->Int->M Unit
 bw:Sl->Int->Int->ξ->Int->Int->M Int
 bz:Sl->Int->Int->ξ->Int->Int->M (Unit⊕Bool)
 cd:Sl->Int->Int->ξ->M Bool
 bN:Sl->Int->ξ->Int->Int->M Int
 bO:Sl->Int->ξ->Int->Int->M Int
 bP:Sl->Int->ξ->Int->Int->M Int
 dm:Sl->Int->Int->Int->ξ->M Int
 cH:Sl->Int->ξ->Int->Int->M Int
 cI:Sl->Int->ξ->Int->Int->M Int
 cJ:Sl->Int->ξ->Int->Int->M Int
 cK:Sl->Int->ξ->Int->Int->M Int
 cM:Sl->Int->ξ->Int->Int->M Int
 eE:Sl->Int->Int->Int->ξ->M (Int×Bool)
 cQ:Sl->Int->Int->ξ->Int->M (Unit⊕Unit)
 dJ:Sl->Int->Int->Int->ξ->M Unit
 cq:Sl->Int->θ->ξ->M Int
 du:Sl->Int->Int->Int->θ->ξ->M Int
 dv:Sl->Int->Int->θ->ξ->M (Int×Int)
def aA (G:aa)(n:Nat)(x:ξ)(a0 a1:Int):M Int:=if rh iE x then sh (pG [aJ,aJ] x) λ(c:Addr×Addr)=>G.aO a0 a1 c.1 c.2 else AS
abbrev iH:=aA
abbrev gm:=aA
abbrev gp:=aA
abbrev fT:=aA
abbrev im:=aA
abbrev iq:=aA
abbrev jO:=aA
abbrev jP:=aA
abbrev jG:=aA
abbrev jH:=aA
abbrev kI:=aA
abbrev kJ:=aA
abbrev lU:=aA
def kR (G:aa)(n:Nat)(a0:Int)(a1 a2:Addr)(a3:Sl)(a4 a5:Int):M Unit:=if decide (a5<a4) then sh (aw a3 a5 1) λx0=>sh (bF x0 [vi a5]) λx1=>G.fj a0 a1 a2 a3 a4 (i64.wrap (a5+1)) else AI ()
def kS (G:aa)(n:Nat)(a0:Int)(a1 a2:Addr)(a3:Sl):M Sl:=sh (G.dI a3 (Value.func (Fn.func iE) #[] #[.pointer (some a1),.pointer (some a2)])) λx0=>sh (ar .ptr a1) λ(x1:θ)=>sh (nn x1) λx2=>sh (ar .sl (x2.plus 2)) λ(x3:Sl)=>sh (aw x3 a0 1) λx4=>sh (bF x4 [aH a3]) λx5=>AI a3
def nJ (G:aa)(n:Nat)(a0:θ)(a1:Int):M Sl:=sh (aM none bJ [.pointer a0]) λx0=>sh (ar .ptr (an x0)) λ(x1:θ)=>sh (nn x1) λx2=>sh (ar .sl ((x2.plus 0).plus 0)) λ(x3:Sl)=>sh (aw x3 a1 5) λx4=>sh (aM none eW [.pointer none]) λx5=>sh (bF (an x5) [.pointer (some x4)]) λx6=>sh (ar .ptr (an x0)) λ(x7:θ)=>sh (nn x7) λx8=>sh (ar .sl (x8.plus 2)) λ(x9:Sl)=>sh (aw x9 a1 1) λx10=>sh (ar .sl x10) λ(x11:Sl)=>if !x11.a.isNone then sh (ar .ptr (an x0)) λ(x12:θ)=>sh (nn x12) λx13=>sh (ar .sl (x13.plus 2)) λ(iY:Sl)=>sh (aw iY a1 1) λx15=>sh (ar .sl x15) λ(pT:Sl)=>AI pT else sh (ar .ptr (an x5)) λ(x12:θ)=>sh (nn x12) λx13=>sh (ar .sl (x13.plus 4)) λ(iY:Sl)=>sh (vS none av [vi 0] (↑iY.len:Int) (↑iY.len:Int)) λx15=>sh (G.fj a1 (an x0) (an x5) x15 (↑x15.len:Int) 0) λpT=>sh (ar .ptr (an x5)) λ(x17:θ)=>sh (nn x17) λrF=>sh (ar li (rF.plus 0)) λ(x19:Int)=>if decide (x19=10) then sh (ar .ptr (an x5)) λ(x20:θ)=>sh (nn x20) λx21=>sh (ar .bool (x21.plus 2)) λ(x22:Bool)=>if !x22 then kS G n a1 (an x0) (an x5) x15 else sh (ar .ptr (an x0)) λ(x23:θ)=>sh (nn x23) λx24=>sh (ar .sl (x24.plus 2)) λ(x25:Sl)=>sh (aw x25 a1 1) λx26=>sh (bF x26 [aH x15]) λx27=>AI x15 else sh (ar .ptr (an x0)) λ(x20:θ)=>sh (nn x20) λx21=>sh (ar .sl (x21.plus 2)) λ(x22:Sl)=>sh (aw x22 a1 1) λx23=>sh (bF x23 [aH x15]) λx24=>AI x15
def jU (G:aa)(n:Nat)(a0:Sl)(a1:ξ):M Unit:=sh (pg n (IntKind.u64.wrap (↑a0.len:Int))) λx0=>sh (G.cX a0 0 (↑a0.len:Int) x0 a1) λx1=>AI ()
def lV (G:aa)(n:Nat)(a0 a1:Int)(a2 a3:Addr):M Int:=sh (ar .ptr a2) λ(x0:θ)=>sh (ar .ptr a3) λ(x1:θ)=>sh (nn x1) λx2=>sh (ar .sl (x2.plus 3)) λ(x3:Sl)=>sh (aw x3 a0 1) λx4=>sh (ar li x4) λ(x5:Int)=>sh (ar .ptr a2) λ(x6:θ)=>sh (ar .ptr a3) λ(x7:θ)=>sh (nn x7) λx8=>sh (ar .sl (x8.plus 3)) λ(x9:Sl)=>sh (aw x9 a1 1) λx10=>sh (ar li x10) λ(x11:Int)=>sh (G.kT x0 x5 x6 x11 none) λx12=>AI x12
def tu (G:aa)(n:Nat)(a0:θ)(a1:Int)(a2:θ)(a3:Int)(a4:μ):M Int:=sh (xA HS (Ty.one li) 0 a4 (Value.agg #[vi a1,vi a3])) λ(x0:Bool×Int)=>if x0.1 then AI x0.2 else sh (G.qI a0 a1 a2 a3 a4) λx1=>if !a4.isNone then sh (Df HS a4 (Value.agg #[vi a1,vi a3]) (vi x1)) λx2=>AI x1 else AI x1
def cT (G:aa)(n:Nat)(a0:Sl)(a1 a2 a3:Int)(a4:ξ)(a5 a6:Bool)(a7 a8:Int):M Unit:=sh (G.eE a0 a1 a2 a8 a4) λx0=>sh (oq (decide (8≠0))) λx1=>if decide (i64.wrap (x0.1-a1)<i64.wrap (a2-x0.1)) then sh (G.cX a0 a1 x0.1 a3 a4) λx2=>G.bK a0 (i64.wrap (x0.1+1)) a2 a3 a4 (decide (i64.wrap (a7.tdiv 8)<=i64.wrap (x0.1-a1))) x0.2 else sh (G.cX a0 (i64.wrap (x0.1+1)) a2 a3 a4) λx2=>G.bK a0 a1 x0.1 a3 a4 (decide (i64.wrap (a7.tdiv 8)<=i64.wrap (a2-x0.1))) x0.2
def bE (G:aa)(n:Nat)(a0:Sl)(a1 a2 a3:Int)(a4:ξ)(a5 a6:Bool)(a7 a8:Int):M Unit:=if decide (0<a1) then sh (aw a0 (i64.wrap (a1-1)) 1) λx0=>sh (aw a0 a8 1) λx1=>sh (ar li x0) λ(x2:Int)=>sh (ar li x1) λ(x3:Int)=>sh (aA G n a4 x2 x3) λx4=>if !decide (x4<0) then sh (G.dm a0 a1 a2 a8 a4) λx5=>G.bK a0 x5 a2 a3 a4 a5 a6 else cT G n a0 a1 a2 a3 a4 a5 a6 a7 a8 else cT G n a0 a1 a2 a3 a4 a5 a6 a7 a8
def cU (G:aa)(n:Nat)(a0:Sl)(a1 a2 a3:Int)(a4:ξ)(a5 a6:Bool)(a7 a8 a9:Int):M Unit:=if a5 then if a6 then if decide (a9=1) then sh (G.cd a0 a1 a2 a4) λx0=>if x0 then AI () else bE G n a0 a1 a2 a3 a4 a5 a6 a7 a8 else bE G n a0 a1 a2 a3 a4 a5 a6 a7 a8 else bE G n a0 a1 a2 a3 a4 a5 a6 a7 a8 else bE G n a0 a1 a2 a3 a4 a5 a6 a7 a8
def cV (G:aa)(n:Nat)(a0:Sl)(a1 a2 a3:Int)(a4:ξ)(a5 a6:Bool)(a7:Int):M Unit:=sh (G.dO a0 a1 a2 a4) λx0=>if decide (x0.2=2) then sh (fi n a0 a1 a2 a4) λx1=>cU G n a0 a1 a2 a3 a4 a5 a6 a7 (i64.wrap (i64.wrap (a2-1)-i64.wrap (x0.1-a1))) 1 else cU G n a0 a1 a2 a3 a4 a5 a6 a7 x0.1 x0.2
def dH (G:aa)(n:Nat)(a0:Sl)(a1 a2 a3:Int)(a4:ξ)(a5 a6:Bool):M Unit:=if decide (i64.wrap (a2-a1)<=12) then sh (G.dF a0 a1 a2 a4) λx0=>AI () else if decide (a3=0) then sh (G.eS a0 a1 a2 a4) λx0=>AI () else if !a5 then sh (eM n a0 a1 a2 a4) λx0=>cV G n a0 a1 a2 (i64.wrap (a3-1)) a4 a5 a6 (i64.wrap (a2-a1)) else cV G n a0 a1 a2 a3 a4 a5 a6 (i64.wrap (a2-a1))
def eD (G:aa)(n:Nat)(a0:Sl)(a1 a2 a3:Int)(a4:ξ):M Unit:=sh (G.bK a0 a1 a2 a3 a4 true true) λx0=>AI ()
def iw (G:aa)(n:Nat)(a0 a1:θ)(a2:μ)(a3 a4:θ)(a5 a6:Sl)(a7 a8 a9:Int):M (Unit⊕Int):=sh (nn a3) λx0=>sh (aw a5 a7 1) λx1=>sh (nn a4) λx2=>sh (aw a6 a7 1) λx3=>sh (ar .sl (x0.plus 4)) λ(x4:Sl)=>sh (ar li x1) λ(x5:Int)=>sh (aw x4 x5 1) λx6=>sh (ar li x6) λ(x7:Int)=>sh (ar .sl (x2.plus 4)) λ(x8:Sl)=>sh (ar li x3) λ(x9:Int)=>sh (aw x8 x9 1) λx10=>sh (ar li x10) λ(x11:Int)=>sh (G.kT a0 x7 a1 x11 a2) λx12=>if !decide (x12=0) then AI (Sum.inr x12) else G.iV a0 a1 a2 a3 a4 a5 a6 a8 (i64.wrap (a9+1))
def qH (G:aa)(n:Nat)(a0 a1:θ)(a2:μ)(a3 a4:θ)(a5 a6:Sl)(a7 a8:Int):M (Unit⊕Int):=if decide (a8<a7) then sh (nn a3) λx0=>sh (ar li (x0.plus 0)) λ(x1:Int)=>if decide (x1=10) then sh (nn a3) λx2=>sh (aw a5 a8 1) λx3=>sh (nn a4) λx4=>sh (aw a6 a8 1) λx5=>sh (ar .sl (x2.plus 3)) λ(x6:Sl)=>sh (ar li x3) λ(x7:Int)=>sh (aw x6 x7 1) λx8=>sh (ar li x8) λ(x9:Int)=>sh (ar .sl (x4.plus 3)) λ(x10:Sl)=>sh (ar li x5) λ(x11:Int)=>sh (aw x10 x11 1) λx12=>sh (ar li x12) λ(x13:Int)=>sh (G.kT a0 x9 a1 x13 none) λiY=>if !decide (iY=0) then AI (Sum.inr iY) else iw G n a0 a1 a2 a3 a4 a5 a6 a8 a7 a8 else iw G n a0 a1 a2 a3 a4 a5 a6 a8 a7 a8 else AI (Sum.inl ())
def uP (G:aa)(n:Nat)(a0:θ)(a1:Int)(a2:θ)(a3:Int)(a4:μ):M Int:=sh (nn a0) λx0=>sh (nn a2) λx1=>sh (ar .sl ((x0.plus 0).plus 0)) λ(x2:Sl)=>sh (aw x2 a1 5) λx3=>sh (ar .sl ((x1.plus 0).plus 0)) λ(x4:Sl)=>sh (aw x4 a3 5) λx5=>sh (nn (some x3)) λx6=>sh (nn (some x5)) λx7=>sh (ar li (x6.plus 0)) λ(x8:Int)=>sh (ar li (x7.plus 0)) λ(x9:Int)=>if decide (x8<x9) then AI (-1) else sh (nn (some x3)) λx10=>sh (nn (some x5)) λx11=>sh (ar li (x10.plus 0)) λ(x12:Int)=>sh (ar li (x11.plus 0)) λ(x13:Int)=>if decide (x13<x12) then AI 1 else sh (nn (some x3)) λiY=>sh (nn (some x5)) λx15=>sh (ar .bool (iY.plus 2)) λ(pT:Bool)=>sh (ar .bool (x15.plus 2)) λ(x17:Bool)=>if !pT==x17 then sh (nn (some x5)) λrF=>sh (ar .bool (rF.plus 2)) λ(x19:Bool)=>if x19 then AI (-1) else AI 1 else sh (nn (some x3)) λrF=>sh (nn (some x3)) λx19=>sh (nn (some x5)) λx20=>sh (ar li (rF.plus 0)) λ(x21:Int)=>sh (ar .str (x19.plus 1)) λ(x22:ζ)=>sh (ar .str (x20.plus 1)) λ(x23:ζ)=>sh (ua n x21 x22 x23) λx24=>if !decide (x24=0) then AI x24 else sh (G.dZ a0 a1) λx25=>sh (G.dZ a2 a3) λx26=>sh (G.iV a0 a2 a4 (some x3) (some x5) x25 x26 (if (↑x26.len:Int)<(↑x25.len:Int) then (↑x26.len:Int) else (↑x25.len:Int)) 0) (cY (λx27=>if decide ((↑x25.len:Int)<(↑x26.len:Int)) then AI (-1) else if decide ((↑x26.len:Int)<(↑x25.len:Int)) then AI 1 else AI 0) (λx27=>AI x27))
def eJ (G:aa)(n:Nat)(a0:Sl)(a1 a2:Int)(a3:ξ)(a4 a5:Int):M Unit:=sh (aw a0 (i64.wrap (a5-1)) 1) λx0=>sh (aw a0 a5 1) λx1=>sh (ar li x0) λ(x2:Int)=>sh (ar li x1) λ(x3:Int)=>sh (aw a0 a5 1) λx4=>sh (bF x4 [vi x2]) λx5=>sh (aw a0 (i64.wrap (a5-1)) 1) λx6=>sh (bF x6 [vi x3]) λx7=>G.bW a0 a1 a2 a3 a4 (i64.wrap (a5-1))
def cz (G:aa)(n:Nat)(a0:Sl)(a1 a2:Int)(a3:ξ)(a4 a5:Int):M Unit:=if decide (a1<a5) then sh (aw a0 a5 1) λx0=>sh (aw a0 (i64.wrap (a5-1)) 1) λx1=>sh (ar li x0) λ(x2:Int)=>sh (ar li x1) λ(x3:Int)=>sh (iH G n a3 x2 x3) λx4=>if decide (x4<0) then eJ G n a0 a1 a2 a3 a4 a5 else AI () else AI ()
def cB (G:aa)(n:Nat)(a0:Sl)(a1 a2:Int)(a3:ξ)(a4:Int):M Unit:=if decide (a4<a2) then sh (G.bW a0 a1 a2 a3 a4 a4) λx0=>G.bX a0 a1 a2 a3 (i64.wrap (a4+1)) else AI ()
def gE (G:aa)(n:Nat)(a0:Sl)(a1 a2:Int)(a3:ξ):M Unit:=sh (G.bX a0 a1 a2 a3 (i64.wrap (a1+1))) λx0=>AI ()
def dB (G:aa)(n:Nat)(a0:Sl)(a1:ξ)(a2 a3 a4 a5:Int):M Unit:=if decide (0<=a5) then sh (G.dJ a0 a5 a4 a2 a1) λx0=>G.cO a0 a1 a2 a3 a4 (i64.wrap (a5-1)) else AI ()
def dD (G:aa)(n:Nat)(a0:Sl)(a1:ξ)(a2 a3 a4:Int):M Unit:=if decide (0<=a4) then sh (aw a0 (i64.wrap (a2+a4)) 1) λx0=>sh (aw a0 a2 1) λx1=>sh (ar li x0) λ(x2:Int)=>sh (ar li x1) λ(x3:Int)=>sh (aw a0 a2 1) λx4=>sh (bF x4 [vi x2]) λx5=>sh (aw a0 (i64.wrap (a2+a4)) 1) λx6=>sh (bF x6 [vi x3]) λx7=>sh (G.dJ a0 a3 a4 a2 a1) λx8=>G.cP a0 a1 a2 a3 (i64.wrap (a4-1)) else AI ()
def iT (G:aa)(n:Nat)(a0:Sl)(a1 a2:Int)(a3:ξ):M Unit:=sh (oq (decide (2≠0))) λx0=>sh (G.cO a0 a3 a1 0 (i64.wrap (a2-a1)) (i64.wrap ((i64.wrap (i64.wrap (a2-a1)-1)).tdiv 2))) λx1=>sh (G.cP a0 a3 a1 0 (i64.wrap (i64.wrap (a2-a1)-1))) λx2=>AI ()
def bU (G:aa)(n:Nat)(a0:Addr)(a1:Int):M (Int×Int):=sh (ar li a0) λ(x0:Int)=>if decide (x0=0) then AI (a1,1) else if decide (x0=12) then AI (a1,2) else AI (a1,0)
def gX (G:aa)(n:Nat)(a0:Sl)(a1 a2:Int)(a3:ξ):M (Int×Int):=sh (aM none av [vi 0]) λx0=>sh (oq (decide (4≠0))) λx1=>sh (oq (decide (4≠0))) λx2=>sh (oq (decide (4≠0))) λx3=>if decide (8<=i64.wrap (a2-a1)) then if decide (50<=i64.wrap (a2-a1)) then sh (G.cq a0 (i64.wrap (a1+i64.wrap (i64.wrap ((i64.wrap (a2-a1)).tdiv 4)*1))) (some (an x0)) a3) λx4=>sh (G.cq a0 (i64.wrap (a1+i64.wrap (i64.wrap ((i64.wrap (a2-a1)).tdiv 4)*2))) (some (an x0)) a3) λx5=>sh (G.cq a0 (i64.wrap (a1+i64.wrap (i64.wrap ((i64.wrap (a2-a1)).tdiv 4)*3))) (some (an x0)) a3) λx6=>sh (G.du a0 x4 x5 x6 (some (an x0)) a3) λx7=>bU G n (an x0) x7 else sh (G.du a0 (i64.wrap (a1+i64.wrap (i64.wrap ((i64.wrap (a2-a1)).tdiv 4)*1))) (i64.wrap (a1+i64.wrap (i64.wrap ((i64.wrap (a2-a1)).tdiv 4)*2))) (i64.wrap (a1+i64.wrap (i64.wrap ((i64.wrap (a2-a1)).tdiv 4)*3))) (some (an x0)) a3) λx4=>bU G n (an x0) x4 else bU G n (an x0) (i64.wrap (a1+i64.wrap (i64.wrap ((i64.wrap (a2-a1)).tdiv 4)*2)))
def mg (G:aa)(n:Nat)(a0:Sl)(a1 a2:Int)(a3:ξ)(a4 a5 a6:Int):M Unit:=if decide (1<=a6) then sh (aw a0 a6 1) λx0=>sh (aw a0 (i64.wrap (a6-1)) 1) λx1=>sh (ar li x0) λ(x2:Int)=>sh (ar li x1) λ(x3:Int)=>sh (gp G n a3 x2 x3) λx4=>if !decide (x4<0) then AI () else sh (aw a0 (i64.wrap (a6-1)) 1) λx5=>sh (aw a0 a6 1) λx6=>sh (ar li x5) λ(x7:Int)=>sh (ar li x6) λ(x8:Int)=>sh (aw a0 a6 1) λx9=>sh (bF x9 [vi x7]) λx10=>sh (aw a0 (i64.wrap (a6-1)) 1) λx11=>sh (bF x11 [vi x8]) λx12=>G.bL a0 a1 a2 a3 a4 a5 (i64.wrap (a6-1)) else AI ()
def mh (G:aa)(n:Nat)(a0:Sl)(a1 a2:Int)(a3:ξ)(a4 a5 a6:Int):M Unit:=if decide (a6<a2) then sh (aw a0 a6 1) λx0=>sh (aw a0 (i64.wrap (a6-1)) 1) λx1=>sh (ar li x0) λ(x2:Int)=>sh (ar li x1) λ(x3:Int)=>sh (fT G n a3 x2 x3) λx4=>if !decide (x4<0) then AI () else sh (aw a0 (i64.wrap (a6-1)) 1) λx5=>sh (aw a0 a6 1) λx6=>sh (ar li x5) λ(x7:Int)=>sh (ar li x6) λ(x8:Int)=>sh (aw a0 a6 1) λx9=>sh (bF x9 [vi x7]) λx10=>sh (aw a0 (i64.wrap (a6-1)) 1) λx11=>sh (bF x11 [vi x8]) λx12=>G.bM a0 a1 a2 a3 a4 a5 (i64.wrap (a6+1)) else AI ()
def bH (G:aa)(n:Nat)(a0:Sl)(a1 a2:Int)(a3:ξ)(a4 a5:Int):M Int:=if decide (a4<a2) then sh (aw a0 a4 1) λx0=>sh (aw a0 (i64.wrap (a4-1)) 1) λx1=>sh (ar li x0) λ(x2:Int)=>sh (ar li x1) λ(x3:Int)=>sh (gm G n a3 x2 x3) λx4=>if !decide (x4<0) then G.bw a0 a1 a2 a3 (i64.wrap (a4+1)) a5 else AI a4 else AI a4
def dq (G:aa)(n:Nat)(a0:Sl)(a1 a2:Int)(a3:ξ)(a4 a5:Int):M (Unit⊕Bool):=if decide (2<=i64.wrap (a2-a4)) then sh (G.bM a0 a1 a2 a3 a4 a5 (i64.wrap (a4+1))) λx0=>G.bz a0 a1 a2 a3 a4 (i64.wrap (a5+1)) else G.bz a0 a1 a2 a3 a4 (i64.wrap (a5+1))
def dL (G:aa)(n:Nat)(a0:Sl)(a1 a2:Int)(a3:ξ)(a4 a5:Int):M (Unit⊕Bool):=if decide (a5<5) then sh (G.bw a0 a1 a2 a3 a4 a5) λx0=>if decide (x0=a2) then AI (Sum.inr true) else if decide (i64.wrap (a2-a1)<50) then AI (Sum.inr false) else sh (aw a0 (i64.wrap (x0-1)) 1) λx1=>sh (aw a0 x0 1) λx2=>sh (ar li x1) λ(x3:Int)=>sh (ar li x2) λ(x4:Int)=>sh (aw a0 x0 1) λx5=>sh (bF x5 [vi x3]) λx6=>sh (aw a0 (i64.wrap (x0-1)) 1) λx7=>sh (bF x7 [vi x4]) λx8=>if decide (2<=i64.wrap (x0-a1)) then sh (G.bL a0 a1 a2 a3 x0 a5 (i64.wrap (x0-1))) λx9=>dq G n a0 a1 a2 a3 x0 a5 else dq G n a0 a1 a2 a3 x0 a5 else AI (Sum.inl ())
def eA (G:aa)(n:Nat)(a0:Sl)(a1 a2:Int)(a3:ξ):M Bool:=sh (G.bz a0 a1 a2 a3 (i64.wrap (a1+1)) 0) (cY (λx0=>AI false) (λx0=>AI x0))
def cm (G:aa)(n:Nat)(a0:Sl)(a1:Int)(a2:ξ)(a3 a4:Int):M Int:=if decide (a3<=a4) then sh (aw a0 a1 1) λx0=>sh (aw a0 a4 1) λx1=>sh (ar li x0) λ(x2:Int)=>sh (ar li x1) λ(x3:Int)=>sh (iq G n a2 x2 x3) λx4=>if decide (x4<0) then G.bN a0 a1 a2 a3 (i64.wrap (a4-1)) else AI a4 else AI a4
def cn (G:aa)(n:Nat)(a0:Sl)(a1:Int)(a2:ξ)(a3 a4:Int):M Int:=if decide (a3<=a4) then sh (aw a0 a1 1) λx0=>sh (aw a0 a3 1) λx1=>sh (ar li x0) λ(x2:Int)=>sh (ar li x1) λ(x3:Int)=>sh (im G n a2 x2 x3) λx4=>if !decide (x4<0) then G.bO a0 a1 a2 (i64.wrap (a3+1)) a4 else AI a3 else AI a3
def cp (G:aa)(n:Nat)(a0:Sl)(a1:Int)(a2:ξ)(a3 a4:Int):M Int:=sh (G.bO a0 a1 a2 a3 a4) λx0=>sh (G.bN a0 a1 a2 x0 a4) λx1=>if decide (x1<x0) then AI x0 else sh (aw a0 x1 1) λx2=>sh (aw a0 x0 1) λx3=>sh (ar li x2) λ(x4:Int)=>sh (ar li x3) λ(x5:Int)=>sh (aw a0 x0 1) λx6=>sh (bF x6 [vi x4]) λx7=>sh (aw a0 x1 1) λx8=>sh (bF x8 [vi x5]) λx9=>G.bP a0 a1 a2 (i64.wrap (x0+1)) (i64.wrap (x1-1))
def fX (G:aa)(n:Nat)(a0:Sl)(a1 a2 a3:Int)(a4:ξ):M Int:=sh (aw a0 a3 1) λx0=>sh (aw a0 a1 1) λx1=>sh (ar li x0) λ(x2:Int)=>sh (ar li x1) λ(x3:Int)=>sh (aw a0 a1 1) λx4=>sh (bF x4 [vi x2]) λx5=>sh (aw a0 a3 1) λx6=>sh (bF x6 [vi x3]) λx7=>sh (G.bP a0 a1 a4 (i64.wrap (a1+1)) (i64.wrap (a2-1))) λx8=>AI x8
def db (G:aa)(n:Nat)(a0:Sl)(a1:Int)(a2:ξ)(a3 a4:Int):M Int:=if decide (a3<=a4) then sh (aw a0 a4 1) λx0=>sh (aw a0 a1 1) λx1=>sh (ar li x0) λ(x2:Int)=>sh (ar li x1) λ(x3:Int)=>sh (jH G n a2 x2 x3) λx4=>if !decide (x4<0) then G.cH a0 a1 a2 a3 (i64.wrap (a4-1)) else AI a4 else AI a4
def de (G:aa)(n:Nat)(a0:Sl)(a1:Int)(a2:ξ)(a3 a4:Int):M Int:=if decide (a3<=a4) then sh (aw a0 a3 1) λx0=>sh (aw a0 a1 1) λx1=>sh (ar li x0) λ(x2:Int)=>sh (ar li x1) λ(x3:Int)=>sh (jG G n a2 x2 x3) λx4=>if decide (x4<0) then G.cI a0 a1 a2 (i64.wrap (a3+1)) a4 else AI a3 else AI a3
def dh (G:aa)(n:Nat)(a0:Sl)(a1:Int)(a2:ξ)(a3 a4:Int):M Int:=sh (G.cI a0 a1 a2 a3 a4) λx0=>sh (G.cH a0 a1 a2 x0 a4) λx1=>if decide (x1<x0) then AI x1 else sh (aw a0 x1 1) λx2=>sh (aw a0 x0 1) λx3=>sh (ar li x2) λ(x4:Int)=>sh (ar li x3) λ(x5:Int)=>sh (aw a0 x0 1) λx6=>sh (bF x6 [vi x4]) λx7=>sh (aw a0 x1 1) λx8=>sh (bF x8 [vi x5]) λx9=>G.cJ a0 a1 a2 (i64.wrap (x0+1)) (i64.wrap (x1-1))
def di (G:aa)(n:Nat)(a0:Sl)(a1:Int)(a2:ξ)(a3 a4:Int):M Int:=if decide (a3<=a4) then sh (aw a0 a4 1) λx0=>sh (aw a0 a1 1) λx1=>sh (ar li x0) λ(x2:Int)=>sh (ar li x1) λ(x3:Int)=>sh (jP G n a2 x2 x3) λx4=>if !decide (x4<0) then G.cK a0 a1 a2 a3 (i64.wrap (a4-1)) else AI a4 else AI a4
def dj (G:aa)(n:Nat)(a0:Sl)(a1:Int)(a2:ξ)(a3 a4:Int):M Int:=if decide (a3<=a4) then sh (aw a0 a3 1) λx0=>sh (aw a0 a1 1) λx1=>sh (ar li x0) λ(x2:Int)=>sh (ar li x1) λ(x3:Int)=>sh (jO G n a2 x2 x3) λx4=>if decide (x4<0) then G.cM a0 a1 a2 (i64.wrap (a3+1)) a4 else AI a3 else AI a3
def iz (G:aa)(n:Nat)(a0:Sl)(a1 a2 a3:Int)(a4:ξ):M (Int×Bool):=sh (aw a0 a3 1) λx0=>sh (aw a0 a1 1) λx1=>sh (ar li x0) λ(x2:Int)=>sh (ar li x1) λ(x3:Int)=>sh (aw a0 a1 1) λx4=>sh (bF x4 [vi x2]) λx5=>sh (aw a0 a3 1) λx6=>sh (bF x6 [vi x3]) λx7=>sh (G.cM a0 a1 a4 (i64.wrap (a1+1)) (i64.wrap (a2-1))) λx8=>sh (G.cK a0 a1 a4 x8 (i64.wrap (a2-1))) λx9=>if decide (x9<x8) then sh (aw a0 a1 1) λx10=>sh (aw a0 x9 1) λx11=>sh (ar li x10) λ(x12:Int)=>sh (ar li x11) λ(x13:Int)=>sh (aw a0 x9 1) λiY=>sh (bF iY [vi x12]) λx15=>sh (aw a0 a1 1) λpT=>sh (bF pT [vi x13]) λx17=>AI (x9,true) else sh (aw a0 x9 1) λx10=>sh (aw a0 x8 1) λx11=>sh (ar li x10) λ(x12:Int)=>sh (ar li x11) λ(x13:Int)=>sh (aw a0 x8 1) λiY=>sh (bF iY [vi x12]) λx15=>sh (aw a0 x9 1) λpT=>sh (bF pT [vi x13]) λx17=>sh (G.cJ a0 a1 a4 (i64.wrap (x8+1)) (i64.wrap (x9-1))) λrF=>sh (aw a0 a1 1) λx19=>sh (aw a0 rF 1) λx20=>sh (ar li x19) λ(x21:Int)=>sh (ar li x20) λ(x22:Int)=>sh (aw a0 rF 1) λx23=>sh (bF x23 [vi x21]) λx24=>sh (aw a0 a1 1) λx25=>sh (bF x25 [vi x22]) λx26=>AI (rF,false)
def bV (G:aa)(n:Nat)(a0:Sl)(a1 a2:Int)(a3:ξ)(a4 a5:Int):M (Unit⊕Unit):=sh (aw a0 (i64.wrap (a2+a4)) 1) λx0=>sh (aw a0 (i64.wrap (a2+a5)) 1) λx1=>sh (ar li x0) λ(x2:Int)=>sh (ar li x1) λ(x3:Int)=>sh (kJ G n a3 x2 x3) λx4=>if !decide (x4<0) then AI (Sum.inr ()) else sh (aw a0 (i64.wrap (a2+a5)) 1) λx5=>sh (aw a0 (i64.wrap (a2+a4)) 1) λx6=>sh (ar li x5) λ(x7:Int)=>sh (ar li x6) λ(x8:Int)=>sh (aw a0 (i64.wrap (a2+a4)) 1) λx9=>sh (bF x9 [vi x7]) λx10=>sh (aw a0 (i64.wrap (a2+a5)) 1) λx11=>sh (bF x11 [vi x8]) λx12=>G.cQ a0 a1 a2 a3 a5
def dE (G:aa)(n:Nat)(a0:Sl)(a1 a2:Int)(a3:ξ)(a4:Int):M (Unit⊕Unit):=if decide (a1<=i64.wrap (i64.wrap (2*a4)+1)) then AI (Sum.inl ()) else if decide (i64.wrap (i64.wrap (i64.wrap (2*a4)+1)+1)<a1) then sh (aw a0 (i64.wrap (a2+i64.wrap (i64.wrap (2*a4)+1))) 1) λx0=>sh (aw a0 (i64.wrap (i64.wrap (a2+i64.wrap (i64.wrap (2*a4)+1))+1)) 1) λx1=>sh (ar li x0) λ(x2:Int)=>sh (ar li x1) λ(x3:Int)=>sh (kI G n a3 x2 x3) λx4=>if decide (x4<0) then bV G n a0 a1 a2 a3 a4 (i64.wrap (i64.wrap (i64.wrap (2*a4)+1)+1)) else bV G n a0 a1 a2 a3 a4 (i64.wrap (i64.wrap (2*a4)+1)) else bV G n a0 a1 a2 a3 a4 (i64.wrap (i64.wrap (2*a4)+1))
def iU (G:aa)(n:Nat)(a0:Sl)(a1 a2 a3:Int)(a4:ξ):M Unit:=sh (G.cQ a0 a2 a3 a4 a1) (cY (λx0=>AI ()) (λx0=>AI ()))
def pQ (G:aa)(n:Nat)(a0:Sl)(a1:Int)(a2:θ)(a3:ξ):M Int:=sh (G.du a0 (i64.wrap (a1-1)) a1 (i64.wrap (a1+1)) a2 a3) λx0=>AI x0
def jI (G:aa)(n:Nat)(a0:Sl)(a1 a2 a3:Int)(a4:θ)(a5:ξ):M Int:=sh (G.dv a0 a1 a2 a4 a5) λx0=>sh (G.dv a0 x0.2 a3 a4 a5) λx1=>sh (G.dv a0 x0.1 x1.1 a4 a5) λx2=>AI x2.2
def jJ (G:aa)(n:Nat)(a0:Sl)(a1 a2:Int)(a3:θ)(a4:ξ):M (Int×Int):=sh (aw a0 a2 1) λx0=>sh (aw a0 a1 1) λx1=>sh (ar li x0) λ(x2:Int)=>sh (ar li x1) λ(x3:Int)=>sh (lU G n a4 x2 x3) λx4=>if decide (x4<0) then sh (nn a3) λx5=>sh (ar li x5) λ(x6:Int)=>sh (nn a3) λx7=>sh (bF x7 [vi (i64.wrap (x6+1))]) λx8=>AI (a2,a1) else AI (a1,a2)
def aa.at:Nat->aa|0=>⟨λ_ _ _ _ _ _=>AS,λ_ _=>AS,λ_ _=>AS,λ_ _ _ _=>AS,λ_ _ _ _ _=>AS,λ_ _ _ _ _ _ _=>AS,λ_ _ _ _ _=>AS,λ_ _ _ _ _ _ _ _ _=>AS,λ_ _ _ _ _=>AS,λ_ _ _ _ _ _=>AS,λ_ _ _ _ _=>AS,λ_ _ _ _=>AS,λ_ _ _ _ _ _=>AS,λ_ _ _ _ _=>AS,λ_ _ _ _=>AS,λ_ _ _ _=>AS,λ_ _ _ _ _ _ _=>AS,λ_ _ _ _ _ _ _=>AS,λ_ _ _ _ _ _=>AS,λ_ _ _ _ _ _=>AS,λ_ _ _ _=>AS,λ_ _ _ _ _=>AS,λ_ _ _ _ _=>AS,λ_ _ _ _ _=>AS,λ_ _ _ _ _=>AS,λ_ _ _ _ _=>AS,λ_ _ _ _ _=>AS,λ_ _ _ _ _=>AS,λ_ _ _ _ _=>AS,λ_ _ _ _ _=>AS,λ_ _ _ _ _=>AS,λ_ _ _ _ _=>AS,λ_ _ _ _ _=>AS,λ_ _ _ _=>AS,λ_ _ _ _ _ _=>AS,λ_ _ _ _ _=>AS⟩|n+1=>⟨kR (aa.at n) n,nJ (aa.at n) n,jU (aa.at n) n,lV (aa.at n) n,tu (aa.at n) n,dH (aa.at n) n,eD (aa.at n) n,qH (aa.at n) n,uP (aa.at n) n,cz (aa.at n) n,cB (aa.at n) n,gE (aa.at n) n,dB (aa.at n) n,dD (aa.at n) n,iT (aa.at n) n,gX (aa.at n) n,mg (aa.at n) n,mh (aa.at n) n,bH (aa.at n) n,dL (aa.at n) n,eA (aa.at n) n,cm (aa.at n) n,cn (aa.at n) n,cp (aa.at n) n,fX (aa.at n) n,db (aa.at n) n,de (aa.at n) n,dh (aa.at n) n,di (aa.at n) n,dj (aa.at n) n,iz (aa.at n) n,dE (aa.at n) n,iU (aa.at n) n,pQ (aa.at n) n,jI (aa.at n) n,jJ (aa.at n) n⟩
def fj (n:Nat):=(aa.at n).fj
def dZ (n:Nat):=(aa.at n).dZ
def dI (n:Nat):=(aa.at n).dI
def aO (n:Nat):=(aa.at n).aO
def kT (n:Nat):=(aa.at n).kT
def bK (n:Nat):=(aa.at n).bK
def cX (n:Nat):=(aa.at n).cX
def iV (n:Nat):=(aa.at n).iV
def qI (n:Nat):=(aa.at n).qI
def bW (n:Nat):=(aa.at n).bW
def bX (n:Nat):=(aa.at n).bX
def dF (n:Nat):=(aa.at n).dF
def cO (n:Nat):=(aa.at n).cO
def cP (n:Nat):=(aa.at n).cP
def eS (n:Nat):=(aa.at n).eS
def dO (n:Nat):=(aa.at n).dO
def bL (n:Nat):=(aa.at n).bL
def bM (n:Nat):=(aa.at n).bM
def bw (n:Nat):=(aa.at n).bw
def bz (n:Nat):=(aa.at n).bz
def cd (n:Nat):=(aa.at n).cd
def bN (n:Nat):=(aa.at n).bN
def bO (n:Nat):=(aa.at n).bO
def bP (n:Nat):=(aa.at n).bP
def dm (n:Nat):=(aa.at n).dm
def cH (n:Nat):=(aa.at n).cH
def cI (n:Nat):=(aa.at n).cI
def cJ (n:Nat):=(aa.at n).cJ
def cK (n:Nat):=(aa.at n).cK
def cM (n:Nat):=(aa.at n).cM
def eE (n:Nat):=(aa.at n).eE
def cQ (n:Nat):=(aa.at n).cQ
def dJ (n:Nat):=(aa.at n).dJ
def cq (n:Nat):=(aa.at n).cq
def du (n:Nat):=(aa.at n).du
def dv (n:Nat):=(aa.at n).dv
def sT (n:Nat):=aA (aa.at n) n
def ph (n:Nat):=iH (aa.at n) n
def mH (n:Nat):=gm (aa.at n) n
def mI (n:Nat):=gp (aa.at n) n
def mi (n:Nat):=fT (aa.at n) n
def oX (n:Nat):=im (aa.at n) n
def oY (n:Nat):=iq (aa.at n) n
def rl (n:Nat):=jO (aa.at n) n
def rn (n:Nat):=jP (aa.at n) n
def qJ (n:Nat):=jG (aa.at n) n
def qK (n:Nat):=jH (aa.at n) n
def rY (n:Nat):=kI (aa.at n) n
def rZ (n:Nat):=kJ (aa.at n) n
def tx (n:Nat):=lU (aa.at n) n
def xh (n:Nat):=kS (aa.at n) n
def rq (n:Nat):=cV (aa.at n) n
def ru (n:Nat):=cU (aa.at n) n
def rv (n:Nat):=bE (aa.at n) n
def ry (n:Nat):=cT (aa.at n) n
def AP (n:Nat):=iw (aa.at n) n
def oM (n:Nat):=eJ (aa.at n) n
def qL (n:Nat):=bU (aa.at n) n
def lW (n:Nat):=dq (aa.at n) n
def qM (n:Nat):=bV (aa.at n) n
abbrev VI (n:Nat):bB:=⟨48,[uo,aC],[cN],υ2 (dZ n)⟩
abbrev JJ:L1:=⟨[0,1,0,1,1,1,1],[(1,aC),(2,aJ),(5,aJ),(6,cN),(37,aC),(38,aC)],[],[7]++List.range' 38 8,0,λn=>υ6 (fj n)⟩
abbrev VJ (n:Nat):bB:=⟨74,[cN,sQ],[],υ2 (dI n)⟩
abbrev VK (n:Nat):bB:=⟨75,[aC,aC,aJ,aJ],[aC],υ4 (aO n)⟩
abbrev VL (n:Nat):bB:=⟨76,[uo,aC,uo,aC,tyM],[aC],υ5 (kT n)⟩
abbrev Oc (n:Nat):bB:=⟨104,[cN,aC,aC,aC,sQ],[],υ5 (cX n)⟩
abbrev En:Lr:=⟨[0,1,1],[(0,cN),(1,aC),(2,aC),(3,aC),(4,sQ),(10,jT),(11,jT)],[],[1,2,3]++List.range' 10 138,λn=>υ7 (bK n)⟩
abbrev Od (n:Nat):bB:=⟨106,[uo,aC,uo,aC,tyM],[aC],υ5 (qI n)⟩
abbrev Eo:L2:=⟨[0,1,0,1,1,1,1,1],[(0,uo),(2,uo),(4,tyM),(11,uo),(12,uo),(14,cN),(15,cN),(93,aC),(94,aC)],[],[(10,aC)],[10,16,17,18]++List.range' 94 62,1,.ret,λn=>υ9 (iV n)⟩
abbrev Oe (n:Nat):bB:=⟨136,[cN,aC,aC,sQ],[],υ4 (dF n)⟩
abbrev Ep:L1:=⟨[0,1],[(0,cN),(1,aC),(2,aC),(3,sQ),(8,aC)],[],[8,9]++List.range' 12 41,0,λn=>υ5 (bX n)⟩
abbrev Er:L1:=⟨[0,1,0,0,1,0,0,1],[(0,cN),(1,aC),(2,aC),(3,sQ),(8,aC),(9,aC)],[],[9]++List.range' 18 35,2,λn=>υ6 (bW n)⟩
abbrev Of (n:Nat):bB:=⟨137,[cN,aC,aC,sQ],[],υ4 (eS n)⟩
abbrev Es:L1:=⟨[0,1,0,1,1,1],[(0,cN),(3,sQ),(8,aC),(9,aC),(10,aC),(11,aC)],[],[11]++List.range' 20 10,0,λn=>υ6 (cO n)⟩
abbrev Et:L1:=⟨[0,1,1,1,1,1],[(0,cN),(3,sQ),(8,aC),(9,aC),(12,aC)],[],[12]++List.range' 32 28,2,λn=>υ5 (cP n)⟩
abbrev Og (n:Nat):bB:=⟨139,[cN,aC,aC,sQ],[aC,aC],υ4 (dO n)⟩
abbrev Oh (n:Nat):bB:=⟨141,[cN,aC,aC,sQ],[jT],υ4 (cd n)⟩
abbrev Eu:L2:=⟨[0,1,0,1,1],[(0,cN),(1,aC),(2,aC),(3,sQ),(9,aC),(10,aC)],[],[(8,jT)],List.range' 8 5++List.range' 15 126,0,.ret,λn=>υ6 (bz n)⟩
abbrev Ev:L1:=⟨[0,0,0,0,1,0,0,1,0,1,1],[(0,cN),(1,aC),(2,aC),(3,sQ),(9,aC),(10,aC)],[(9,aC)],[9]++List.range' 19 20,2,λn=>υ6 (bw n)⟩
abbrev Ew:L1:=⟨[0,1,0,1,0,1,1,1,1,0,0,1,0,0,1,0,1,1],[(0,cN),(1,aC),(2,aC),(3,sQ),(9,aC),(10,aC),(11,aC)],[],[11]++List.range' 68 33,4,λn=>υ7 (bL n)⟩
abbrev Ex:L1:=⟨[0,1,0,1,1,1,1,1,1,0,0,1,0,0,1,0,1,1],[(0,cN),(1,aC),(2,aC),(3,sQ),(9,aC),(10,aC),(12,aC)],[],[12]++List.range' 107 34,6,λn=>υ7 (bM n)⟩
abbrev Oi (n:Nat):bB:=⟨142,[cN,aC,aC,aC,sQ],[aC],υ5 (dm n)⟩
abbrev Ey:L1:=⟨[0,0,1,1,1],[(0,cN),(1,aC),(4,sQ),(11,aC),(12,aC)],[(11,aC)],[11,12]++List.range' 31 58,0,λn=>υ5 (bP n)⟩
abbrev Ez:L1:=⟨[0,0,0,0,0,0,1,1,1],[(0,cN),(1,aC),(4,sQ),(11,aC),(12,aC)],[(11,aC)],[11]++List.range' 31 19,2,λn=>υ5 (bO n)⟩
abbrev EA:L1:=⟨[0,0,1,0,0,0,0,1,1,1],[(0,cN),(1,aC),(4,sQ),(11,aC),(12,aC)],[(12,aC)],[12]++List.range' 50 18,4,λn=>υ5 (bN n)⟩
abbrev Oj (n:Nat):bB:=⟨143,[cN,aC,aC,aC,sQ],[aC,jT],υ5 (eE n)⟩
abbrev EB:L1:=⟨[0,0,1,1,1],[(0,cN),(1,aC),(4,sQ),(12,aC),(13,aC)],[(12,aC)],[12]++List.range' 32 18,0,λn=>υ5 (cM n)⟩
abbrev EC:L1:=⟨[0,0,1,1,1,1],[(0,cN),(1,aC),(4,sQ),(12,aC),(13,aC)],[(13,aC)],[13]++List.range' 50 19,2,λn=>υ5 (cK n)⟩
abbrev ED:L1:=⟨[0,0,1,1,1,1,1,1,1,1,1],[(0,cN),(1,aC),(4,sQ),(12,aC),(13,aC)],[(13,aC)],[12,13]++List.range' 105 58,4,λn=>υ5 (cJ n)⟩
abbrev EE:L1:=⟨[0,0,0,0,0,0,1,1,1,1,1,1,1,1,1],[(0,cN),(1,aC),(4,sQ),(12,aC),(13,aC)],[(12,aC)],[12]++List.range' 105 18,6,λn=>υ5 (cI n)⟩
abbrev EF:L1:=⟨[0,0,1,0,0,0,0,1,1,1,1,1,1,1,1,1],[(0,cN),(1,aC),(4,sQ),(12,aC),(13,aC)],[(13,aC)],[13]++List.range' 123 19,8,λn=>υ5 (cH n)⟩
abbrev Ok (n:Nat):bB:=⟨165,[cN,aC,aC,aC,sQ],[],υ5 (dJ n)⟩
abbrev EG:L2:=⟨[0,1],[(0,cN),(2,aC),(3,aC),(4,sQ),(10,aC)],[],[],[10,11]++List.range' 13 69,0,.ret,λn=>υ5 (cQ n)⟩
abbrev Ol (n:Nat):bB:=⟨168,[cN,aC,uo,sQ],[aC],υ4 (cq n)⟩
abbrev Om (n:Nat):bB:=⟨169,[cN,aC,aC,aC,uo,sQ],[aC],υ6 (du n)⟩
abbrev On (n:Nat):bB:=⟨185,[cN,aC,aC,uo,sQ],[aC,aC],υ5 (dv n)⟩
abbrev xi (n:Nat):List bB:=VI n::VJ n::VK n::VL n::Oc n::Od n::Oe n::Of n::Og n::Oh n::Oi n::Oj n::Ok n::Ol n::Om n::On n::C77 n
abbrev acY (n:Nat):List (gC Sl):=[⟨[0,1,0,1,1,1,1,1],[.code [1,1,1,1,1,1]],[(1,aC),(2,aJ),(5,aJ),(6,cN)],υ4 (xh n)⟩]
def acZ (i:Nat):Option (List (Nat×η)):=Κ i 1 (Ω [5,13,0,1,2,3,4,6,7,8,9,10,11,12,14,15,16,17]) none
abbrev JK (n:Nat):List jM:=[⟨84,[aC,aC],[aC],λx a=>sT n x a.1 a.2⟩]
def Qo (i:Nat):Option (List (Nat×η)):=Κ i 17 (Ω [0,1,2,3,4,5,6,7,9,10,11,8,12,13,14,15,16]) none
abbrev Oo (n:Nat):List (gC Unit):=[⟨[0,1,1,1,1,0,0,0,1,1],[.code [1,1,1,1,1,0,0,0,1,1],.au 1],[(0,cN),(1,aC),(2,aC),(3,aC),(4,sQ),(10,jT),(11,jT),(12,aC)],υ8 (rq n)⟩, ⟨[0,0,1,1,1,1,1,1,0,0,0,1,1],[.code [1,0,1,1,1,1,1,1,0,0,0,1,1],.code [1,1,1,1,1,1,1,0,0,0,1,1],.au 1],[(0,cN),(1,aC),(2,aC),(3,aC),(4,sQ),(10,jT),(11,jT),(12,aC),(13,aC),(14,aC)],υ10 (ru n)⟩, ⟨[0,0,1,1,1,1,1,1,1,0,0,0,1,1],[.code [1,0,1,1,1,1,1,1,1,0,0,0,1,1],.code [1,1,1,1,1,1,1,1,0,0,0,1,1],.au 1],[(0,cN),(1,aC),(2,aC),(3,aC),(4,sQ),(10,jT),(11,jT),(12,aC),(13,aC)],υ9 (rv n)⟩, ⟨[0,1,1,1,1,1,1,1,1,0,0,0,1,1],[.code [1,1,1,1,1,1,1,1,1,0,0,0,1,1],.au 1],[(0,cN),(1,aC),(2,aC),(3,aC),(4,sQ),(10,jT),(11,jT),(12,aC),(13,aC)],υ9 (ry n)⟩]
def Qp (i:Nat):Option (List (Nat×η)):=Κ i 1 (Ω [0,1,2,3,5,7,8,9,10,12,4,6,14,11,13,15]) (Κ i 2 (Ω [0,1,2,4,5,6,3,7,8,9]) (Κ i 4 (Ω [0,1,2,4,5,6,3,7,8,9]) (Κ i 6 (Ω [0,1,2,4,5,6,3,7,8,9]) (Κ i 10 (Ω [0,1,2,4,5,6,8,9,10,3,7,11,12,13]) (Κ i 18 (Ω [0,1,2,3,5,6,7,11,12,13,14,16,17,18,4,8,9,10,15,19,20,21,22,23]) (Κ i 21 (Ω [0,1,2,3,5,6,7,11,12,13,14,16,17,18,22,4,8,9,10,15,19,20,21,23,24]) none))))))
abbrev Oq (n:Nat):List (gC (Unit⊕Int)):=[⟨[0,1,1,0,0,1,1,0,0,1,0,1,1,1,1,1],[.code [1,1,1,0,0,1,1,0,0,1,0,1,1,1,1,1],.au 2,.code [1,1,1,0,0,1,0,1,1,1,1,1]],[(0,uo),(2,uo),(4,tyM),(11,uo),(12,uo),(14,cN),(15,cN),(16,aC),(93,aC),(94,aC)],υ10 (AP n)⟩]
abbrev EH (n:Nat):List jM:=[⟨22,[aC,aC],[aC],λx a=>ph n x a.1 a.2⟩]
def JL (i:Nat):Option (List (Nat×η)):=Κ i 4 (Ω [0,1,2,3,4,5,6,7,9,10,11,12,8,13,14,15,16]) (Κ i 6 (Ω [0,1,2,3,4,5,6,7,8,10,11,12,9,13,14,15,16,17]) none)
abbrev Ot (n:Nat):List (gC Unit):=[⟨[0,0,1,0,0,1,0,0,1,0,0,1],[.au 3,.code [1,1,0,0,1,0,0,1,0,0,1]],[(0,cN),(1,aC),(2,aC),(3,sQ),(8,aC),(9,aC)],υ6 (oM n)⟩]
def JM (i:Nat):Option (List (Nat×η)):=Κ i 10 (Ω [0,1,2,3,4,5,6,7,8,9,10,12,13,14,11,15,16,17,18,19]) none
abbrev Y3 (n:Nat):List (gC (Int×Int)):=[⟨[0,1,1,1,1,1,1,1],[.code [1,1,1,1,1,1,1,1]],[(11,aJ),(13,aC)],υ2 (qL n)⟩]
abbrev zq (n:Nat):List jM:=[⟨23,[aC,aC],[aC],λx a=>mH n x a.1 a.2⟩, ⟨72,[aC,aC],[aC],λx a=>mI n x a.1 a.2⟩, ⟨112,[aC,aC],[aC],λx a=>mi n x a.1 a.2⟩]
def BB (i:Nat):Option (List (Nat×η)):=Κ i 5 (Ω [0,1,2,3,4,5,6,7,9,10,11,12,8,13,14,15,16,17]) (Κ i 11 (Ω [0,1,2,3,4,5,6,7,8,10,11,12,9,13,14,15,16,17]) (Κ i 16 (Ω [0,1,2,3,5,6,7,8,4,9,10,11,12]) (Κ i 17 (Ω [0,1,2,3,4,5,6,7,8,10,11,12,9,13,14,15,16,17]) (Κ i 22 (Ω [0,1,2,3,5,6,7,8,4,9,10,11,12]) (Κ i 23 (Ω [0,1,2,3,4,5,6,7,8,10,11,12,9,13,14,15,16,17]) none)))))
abbrev Ou (n:Nat):List (gC (Unit⊕Bool)):=[⟨[0,1,1,1,1,1,0,0,1,0,0,1,0,1,1],[.code [1,1,1,1,1,1,0,0,1,0,0,1,0,1,1],.au 1,.code [1,1,0,0,1,0,1,1]],[(0,cN),(1,aC),(2,aC),(3,sQ),(9,aC),(10,aC)],υ6 (lW n)⟩]
abbrev BC (n:Nat):List jM:=[⟨35,[aC,aC],[aC],λx a=>oX n x a.1 a.2⟩, ⟨54,[aC,aC],[aC],λx a=>oY n x a.1 a.2⟩]
def EI (i:Nat):Option (List (Nat×η)):=Κ i 1 (Ω [0,1,2,3,4,5,6,8,9,10,7,11,12,13,14,15]) (Κ i 3 (Ω [0,1,2,3,4,5,6,7,9,10,11,8,12,13,14,15,16]) (Κ i 5 (Ω [0,1,2,3,4,5,6,7,9,10,11,8,12,13,14,15]) (Κ i 8 (Ω [0,1,2,3,4,5,6,8,9,10,7,11,12,13,14,15]) none)))
abbrev xj (n:Nat):List jM:=[⟨36,[aC,aC],[aC],λx a=>rl n x a.1 a.2⟩, ⟨54,[aC,aC],[aC],λx a=>rn n x a.1 a.2⟩, ⟨109,[aC,aC],[aC],λx a=>qJ n x a.1 a.2⟩, ⟨127,[aC,aC],[aC],λx a=>qK n x a.1 a.2⟩]
def zr (i:Nat):Option (List (Nat×η)):=Κ i 1 (Ω [0,1,2,3,4,5,6,8,9,10,7,11,12,13,14,15]) (Κ i 3 (Ω [0,1,2,3,4,5,6,7,9,10,11,8,12,13,14,15]) (Κ i 5 (Ω [0,1,2,3,4,5,6,7,9,10,11,8,12,13,14,15,16]) (Κ i 8 (Ω [0,1,2,3,4,5,6,8,9,10,7,11,12,13,14,15]) (Κ i 10 (Ω [0,1,2,3,4,5,6,8,9,10,7,11,12,13,14,15]) (Κ i 13 (Ω [0,1,2,3,4,5,6,7,9,10,11,8,12,13,14,15]) (Κ i 15 (Ω [0,1,2,3,4,5,6,7,9,10,11,8,12,13,14,15,16]) (Κ i 18 (Ω [0,1,2,3,4,5,6,8,9,10,7,11,12,13,14,15]) (Κ i 21 (Ω [0,1,2,3,4,5,6,8,9,10,7,11,12,13,14,15]) none))))))))
abbrev JN (n:Nat):List jM:=[⟨24,[aC,aC],[aC],λx a=>rY n x a.1 a.2⟩, ⟨43,[aC,aC],[aC],λx a=>rZ n x a.1 a.2⟩]
def Qq (i:Nat):Option (List (Nat×η)):=Κ i 3 (Ω [0,1,2,3,4,5,6,7,8,9,10,12,13,14,15,16,17,11,18,19,20,21]) (Κ i 5 (Ω [0,1,2,3,4,5,7,8,9,10,11,6,12,13,14,15]) (Κ i 6 (Ω [0,1,2,3,4,5,6,7,8,9,10,11,12,14,15,16,17,18,13,19,20,21,22,23]) none))
abbrev Ov (n:Nat):List (gC (Unit⊕Unit)):=[⟨[0,0,1,1,1,0,0,0,1],[.code [1,0,1,1,1,0,0,0,1],.code [1,1,1,1,0,0,0,1],.au 1],[(0,cN),(2,aC),(3,aC),(4,sQ),(10,aC),(11,aC)],υ6 (qM n)⟩]
abbrev Qr (n:Nat):List jM:=[⟨12,[aC,aC],[aC],λx a=>tx n x a.1 a.2⟩]
def Y4 (i:Nat):Option (List (Nat×η)):=Κ i 1 (Ω [0,1,2,3,5,6,7,4,8,9,10]) none
def ao (n:Nat):Prop:=aP TZp (VI n)/\aP TZp (VJ n)/\aP TZp (VK n)/\aP TZp (VL n)/\aP TZp (Oc n)/\aP TZp (Od n)/\aP TZp (Oe n)/\aP TZp (Of n)/\aP TZp (Og n)/\aP TZp (Oh n)/\aP TZp (Oi n)/\aP TZp (Oj n)/\aP TZp (Ok n)/\aP TZp (Ol n)/\aP TZp (Om n)/\aP TZp (On n)
theorem hY (n:Nat)(H:ao n):aI TZp (xi n):=.cons H.1 (.cons H.2.1 (.cons H.2.2.1 (.cons H.2.2.2.1 (.cons H.2.2.2.2.1 (.cons H.2.2.2.2.2.1 (.cons H.2.2.2.2.2.2.1 (.cons H.2.2.2.2.2.2.2.1 (.cons H.2.2.2.2.2.2.2.2.1 (.cons H.2.2.2.2.2.2.2.2.2.1 (.cons H.2.2.2.2.2.2.2.2.2.2.1 (.cons H.2.2.2.2.2.2.2.2.2.2.2.1 (.cons H.2.2.2.2.2.2.2.2.2.2.2.2.1 (.cons H.2.2.2.2.2.2.2.2.2.2.2.2.2.1 (.cons H.2.2.2.2.2.2.2.2.2.2.2.2.2.2.1 (.cons H.2.2.2.2.2.2.2.2.2.2.2.2.2.2.2 (K77 n))))))))))))))))
theorem SS (n:Nat)(H:∀m,m<n->ao m):kZ TZp Tryz.f48 (JJ.e n) JJ.ws:=L1.ok Tryz.f48 JJ n xi (hT:=λm hm=>.m1 (hY m (H m hm)))
theorem uc (n:Nat)(H:∀m,m<n+1->ao m):aP TZp (VI (n+1)):=bG Tryz.f48 (xi n) (ll:=[JJ.e n]) (js:=acY n) (hT:=⟨.nil,hY n (H n (aam n)),.nil,(.cc (SS n (λk hk=>H k (ab8 hk))) .nil),(.cc .nil)⟩)
theorem rz (n:Nat)(H:∀m,m<n+1->ao m):aP TZp (VJ (n+1)):=bG Tryz.f74 (xi n) (hT:=.m1 (hY n (H n (aam n))))
theorem sU (n:Nat)(H:∀m,m<n+1->ao m):aP TZp (VK (n+1)):=bG Tryz.f75 (xi n) (dr:=acZ) (hT:=.m1 (hY n (H n (aam n))))
theorem xX (n:Nat)(H:∀m,m<n+1->ao m):aP TZp (VL (n+1)):=bG Tryz.f76 (xi n) (hT:=.m1 (hY n (H n (aam n))))
theorem Qs (n:Nat)(H:ao n):pI TZp (JK n):=.cons (dw (l:=[⟨75,[aJ,aJ],λa c=>aO n a.1 a.2 c.1 c.2⟩]) (.cons (λa c=>aV (by kernel_rfl) ((H).2.2.1 (a.1,a.2,c.1,c.2))) .nil) (λx a=>by kernel_rfl)) .nil
theorem Ow (n:Nat)(H:∀m,m<n->ao m):kZ TZp Tryz.f104 (En.e n) En.ws:=Lr.ok Tryz.f104 En n xi (dt:=JK) (dr:=Qo) (jt:=Oo) (hT:=λm hm=>⟨.nil,hY m (H m hm),(Qs m (H m hm)),.nil,(.cc (.cc (.cc (.cc .nil))))⟩)
theorem p5 (n:Nat)(H:∀m,m<n+1->ao m):aP TZp (Oc (n+1)):=bG Tryz.f104 (xi n) (dl:=JK n) (ll:=[En.e n]) (dr:=Qo) (hT:=⟨.nil,hY n (H n (aam n)),(Qs n (H n (aam n))),(.cc (Ow n (λk hk=>H k (ab8 hk))) .nil),.nil⟩)
theorem Ox (n:Nat)(H:∀m,m<n->ao m):kZ TZp Tryz.f106 (Eo.e n) Eo.ws:=L2.ok Tryz.f106 Eo n xi (dr:=Qp) (jt:=Oq) (hT:=λm hm=>⟨.nil,hY m (H m hm),.nil,.nil,(.cc .nil)⟩)
theorem yT (n:Nat)(H:∀m,m<n+1->ao m):aP TZp (Od (n+1)):=bG Tryz.f106 (xi n) (ll:=[Eo.e n]) (dr:=Qp) (hT:=⟨.nil,hY n (H n (aam n)),.nil,(.cc (Ox n (λk hk=>H k (ab8 hk))) .nil),.nil⟩)
theorem JO (n:Nat)(H:ao n):pI TZp (EH n):=.cons (dw (l:=[⟨75,[aJ,aJ],λa c=>aO n a.1 a.2 c.1 c.2⟩]) (.cons (λa c=>aV (by kernel_rfl) ((H).2.2.1 (a.1,a.2,c.1,c.2))) .nil) (λx a=>by kernel_rfl)) .nil
theorem Oy (n:Nat)(H:∀m,m<n->ao m):kZ TZp Tryz.f136 (Er.e n) Er.ws:=L1.ok Tryz.f136 Er n xi (dt:=EH) (dr:=JL) (jt:=Ot) (hT:=λm hm=>⟨.nil,hY m (H m hm),(JO m (H m hm)),.nil,(.cc .nil)⟩)
theorem Oz (n:Nat)(H:∀m,m<n->ao m):kZ TZp Tryz.f136 (Ep.e n) Ep.ws:=L1.ok Tryz.f136 Ep n xi (dt:=EH) (lt:=λn=>[Er.e n]) (dr:=JL) (hT:=λm hm=>⟨.nil,hY m (H m hm),(JO m (H m hm)),(.cc (Oy m (λk hk=>H k (agH hk hm))) .nil),.nil⟩)
theorem nV (n:Nat)(H:∀m,m<n+1->ao m):aP TZp (Oe (n+1)):=bG Tryz.f136 (xi n) (dl:=EH n) (ll:=[Ep.e n]) (dr:=JL) (hT:=⟨.nil,hY n (H n (aam n)),(JO n (H n (aam n))),(.cc (Oz n (λk hk=>H k (ab8 hk))) .nil),.nil⟩)
theorem OA (n:Nat)(H:∀m,m<n->ao m):kZ TZp Tryz.f137 (Es.e n) Es.ws:=L1.ok Tryz.f137 Es n xi (dr:=JM) (hT:=λm hm=>.m1 (hY m (H m hm)))
theorem OB (n:Nat)(H:∀m,m<n->ao m):kZ TZp Tryz.f137 (Et.e n) Et.ws:=L1.ok Tryz.f137 Et n xi (dr:=JM) (hT:=λm hm=>.m1 (hY m (H m hm)))
theorem pR (n:Nat)(H:∀m,m<n+1->ao m):aP TZp (Of (n+1)):=bG Tryz.f137 (xi n) (ll:=[Es.e n,Et.e n]) (dr:=JM) (hT:=⟨.nil,hY n (H n (aam n)),.nil,(.cc (OA n (λk hk=>H k (ab8 hk))) (.cc (OB n (λk hk=>H k (ab8 hk))) .nil)),.nil⟩)
theorem oN (n:Nat)(H:∀m,m<n+1->ao m):aP TZp (Og (n+1)):=bG Tryz.f139 (xi n) (js:=Y3 n) (hT:=⟨.nil,hY n (H n (aam n)),.nil,.nil,(.cc .nil)⟩)
theorem BD (n:Nat)(H:ao n):pI TZp (zq n):=.cons (dw (l:=[⟨75,[aJ,aJ],λa c=>aO n a.1 a.2 c.1 c.2⟩]) (.cons (λa c=>aV (by kernel_rfl) ((H).2.2.1 (a.1,a.2,c.1,c.2))) .nil) (λx a=>by kernel_rfl)) (.cons (dw (l:=[⟨75,[aJ,aJ],λa c=>aO n a.1 a.2 c.1 c.2⟩]) (.cons (λa c=>aV (by kernel_rfl) ((H).2.2.1 (a.1,a.2,c.1,c.2))) .nil) (λx a=>by kernel_rfl)) (.cons (dw (l:=[⟨75,[aJ,aJ],λa c=>aO n a.1 a.2 c.1 c.2⟩]) (.cons (λa c=>aV (by kernel_rfl) ((H).2.2.1 (a.1,a.2,c.1,c.2))) .nil) (λx a=>by kernel_rfl)) .nil))
theorem OC (n:Nat)(H:∀m,m<n->ao m):kZ TZp Tryz.f141 (Ew.e n) Ew.ws:=L1.ok Tryz.f141 Ew n xi (dt:=zq) (dr:=BB) (hT:=λm hm=>⟨.nil,hY m (H m hm),(BD m (H m hm)),.nil,.nil⟩)
theorem OD (n:Nat)(H:∀m,m<n->ao m):kZ TZp Tryz.f141 (Ex.e n) Ex.ws:=L1.ok Tryz.f141 Ex n xi (dt:=zq) (dr:=BB) (hT:=λm hm=>⟨.nil,hY m (H m hm),(BD m (H m hm)),.nil,.nil⟩)
theorem OE (n:Nat)(H:∀m,m<n->ao m):kZ TZp Tryz.f141 (Ev.e n) Ev.ws:=L1.ok Tryz.f141 Ev n xi (dt:=zq) (dr:=BB) (hT:=λm hm=>⟨.nil,hY m (H m hm),(BD m (H m hm)),.nil,.nil⟩)
theorem OH (n:Nat)(H:∀m,m<n->ao m):kZ TZp Tryz.f141 (Eu.e n) Eu.ws:=L2.ok Tryz.f141 Eu n xi (dt:=zq) (lt:=λn=>[Ev.e n,Ew.e n,Ex.e n]) (dr:=BB) (jt:=Ou) (hT:=λm hm=>⟨.nil,hY m (H m hm),(BD m (H m hm)),(.cc (OE m (λk hk=>H k (agH hk hm))) (.cc (OC m (λk hk=>H k (agH hk hm))) (.cc (OD m (λk hk=>H k (agH hk hm))) .nil))),(.cc .nil)⟩)
theorem kU (n:Nat)(H:∀m,m<n+1->ao m):aP TZp (Oh (n+1)):=bG Tryz.f141 (xi n) (dl:=zq n) (ll:=[Eu.e n]) (dr:=BB) (hT:=⟨.nil,hY n (H n (aam n)),(BD n (H n (aam n))),(.cc (OH n (λk hk=>H k (ab8 hk))) .nil),.nil⟩)
theorem EJ (n:Nat)(H:ao n):pI TZp (BC n):=.cons (dw (l:=[⟨75,[aJ,aJ],λa c=>aO n a.1 a.2 c.1 c.2⟩]) (.cons (λa c=>aV (by kernel_rfl) ((H).2.2.1 (a.1,a.2,c.1,c.2))) .nil) (λx a=>by kernel_rfl)) (.cons (dw (l:=[⟨75,[aJ,aJ],λa c=>aO n a.1 a.2 c.1 c.2⟩]) (.cons (λa c=>aV (by kernel_rfl) ((H).2.2.1 (a.1,a.2,c.1,c.2))) .nil) (λx a=>by kernel_rfl)) .nil)
theorem OI (n:Nat)(H:∀m,m<n->ao m):kZ TZp Tryz.f142 (EA.e n) EA.ws:=L1.ok Tryz.f142 EA n xi (dt:=BC) (dr:=EI) (hT:=λm hm=>⟨.nil,hY m (H m hm),(EJ m (H m hm)),.nil,.nil⟩)
theorem OJ (n:Nat)(H:∀m,m<n->ao m):kZ TZp Tryz.f142 (Ez.e n) Ez.ws:=L1.ok Tryz.f142 Ez n xi (dt:=BC) (dr:=EI) (hT:=λm hm=>⟨.nil,hY m (H m hm),(EJ m (H m hm)),.nil,.nil⟩)
theorem OL (n:Nat)(H:∀m,m<n->ao m):kZ TZp Tryz.f142 (Ey.e n) Ey.ws:=L1.ok Tryz.f142 Ey n xi (dt:=BC) (lt:=λn=>[Ez.e n,EA.e n]) (dr:=EI) (hT:=λm hm=>⟨.nil,hY m (H m hm),(EJ m (H m hm)),(.cc (OJ m (λk hk=>H k (agH hk hm))) (.cc (OI m (λk hk=>H k (agH hk hm))) .nil)),.nil⟩)
theorem nK (n:Nat)(H:∀m,m<n+1->ao m):aP TZp (Oi (n+1)):=bG Tryz.f142 (xi n) (dl:=BC n) (ll:=[Ey.e n]) (dr:=EI) (hT:=⟨.nil,hY n (H n (aam n)),(EJ n (H n (aam n))),(.cc (OL n (λk hk=>H k (ab8 hk))) .nil),.nil⟩)
theorem zt (n:Nat)(H:ao n):pI TZp (xj n):=.cons (dw (l:=[⟨75,[aJ,aJ],λa c=>aO n a.1 a.2 c.1 c.2⟩]) (.cons (λa c=>aV (by kernel_rfl) ((H).2.2.1 (a.1,a.2,c.1,c.2))) .nil) (λx a=>by kernel_rfl)) (.cons (dw (l:=[⟨75,[aJ,aJ],λa c=>aO n a.1 a.2 c.1 c.2⟩]) (.cons (λa c=>aV (by kernel_rfl) ((H).2.2.1 (a.1,a.2,c.1,c.2))) .nil) (λx a=>by kernel_rfl)) (.cons (dw (l:=[⟨75,[aJ,aJ],λa c=>aO n a.1 a.2 c.1 c.2⟩]) (.cons (λa c=>aV (by kernel_rfl) ((H).2.2.1 (a.1,a.2,c.1,c.2))) .nil) (λx a=>by kernel_rfl)) (.cons (dw (l:=[⟨75,[aJ,aJ],λa c=>aO n a.1 a.2 c.1 c.2⟩]) (.cons (λa c=>aV (by kernel_rfl) ((H).2.2.1 (a.1,a.2,c.1,c.2))) .nil) (λx a=>by kernel_rfl)) .nil)))
theorem OM (n:Nat)(H:∀m,m<n->ao m):kZ TZp Tryz.f143 (EF.e n) EF.ws:=L1.ok Tryz.f143 EF n xi (dt:=xj) (dr:=zr) (hT:=λm hm=>⟨.nil,hY m (H m hm),(zt m (H m hm)),.nil,.nil⟩)
theorem ON (n:Nat)(H:∀m,m<n->ao m):kZ TZp Tryz.f143 (EE.e n) EE.ws:=L1.ok Tryz.f143 EE n xi (dt:=xj) (dr:=zr) (hT:=λm hm=>⟨.nil,hY m (H m hm),(zt m (H m hm)),.nil,.nil⟩)
theorem OO (n:Nat)(H:∀m,m<n->ao m):kZ TZp Tryz.f143 (ED.e n) ED.ws:=L1.ok Tryz.f143 ED n xi (dt:=xj) (lt:=λn=>[EE.e n,EF.e n]) (dr:=zr) (hT:=λm hm=>⟨.nil,hY m (H m hm),(zt m (H m hm)),(.cc (ON m (λk hk=>H k (agH hk hm))) (.cc (OM m (λk hk=>H k (agH hk hm))) .nil)),.nil⟩)
theorem OP (n:Nat)(H:∀m,m<n->ao m):kZ TZp Tryz.f143 (EC.e n) EC.ws:=L1.ok Tryz.f143 EC n xi (dt:=xj) (dr:=zr) (hT:=λm hm=>⟨.nil,hY m (H m hm),(zt m (H m hm)),.nil,.nil⟩)
theorem OQ (n:Nat)(H:∀m,m<n->ao m):kZ TZp Tryz.f143 (EB.e n) EB.ws:=L1.ok Tryz.f143 EB n xi (dt:=xj) (dr:=zr) (hT:=λm hm=>⟨.nil,hY m (H m hm),(zt m (H m hm)),.nil,.nil⟩)
theorem pn (n:Nat)(H:∀m,m<n+1->ao m):aP TZp (Oj (n+1)):=bG Tryz.f143 (xi n) (dl:=xj n) (ll:=[EB.e n,EC.e n,ED.e n]) (dr:=zr) (hT:=⟨.nil,hY n (H n (aam n)),(zt n (H n (aam n))),(.cc (OQ n (λk hk=>H k (ab8 hk))) (.cc (OP n (λk hk=>H k (ab8 hk))) (.cc (OO n (λk hk=>H k (ab8 hk))) .nil))),.nil⟩)
theorem Qt (n:Nat)(H:ao n):pI TZp (JN n):=.cons (dw (l:=[⟨75,[aJ,aJ],λa c=>aO n a.1 a.2 c.1 c.2⟩]) (.cons (λa c=>aV (by kernel_rfl) ((H).2.2.1 (a.1,a.2,c.1,c.2))) .nil) (λx a=>by kernel_rfl)) (.cons (dw (l:=[⟨75,[aJ,aJ],λa c=>aO n a.1 a.2 c.1 c.2⟩]) (.cons (λa c=>aV (by kernel_rfl) ((H).2.2.1 (a.1,a.2,c.1,c.2))) .nil) (λx a=>by kernel_rfl)) .nil)
theorem OR (n:Nat)(H:∀m,m<n->ao m):kZ TZp Tryz.f165 (EG.e n) EG.ws:=L2.ok Tryz.f165 EG n xi (dt:=JN) (dr:=Qq) (jt:=Ov) (hT:=λm hm=>⟨.nil,hY m (H m hm),(Qt m (H m hm)),.nil,(.cc .nil)⟩)
theorem pS (n:Nat)(H:∀m,m<n+1->ao m):aP TZp (Ok (n+1)):=bG Tryz.f165 (xi n) (dl:=JN n) (ll:=[EG.e n]) (dr:=Qq) (hT:=⟨.nil,hY n (H n (aam n)),(Qt n (H n (aam n))),(.cc (OR n (λk hk=>H k (ab8 hk))) .nil),.nil⟩)
theorem nL (n:Nat)(H:∀m,m<n+1->ao m):aP TZp (Ol (n+1)):=bG Tryz.f168 (xi n) (hT:=.m1 (hY n (H n (aam n))))
theorem qN (n:Nat)(H:∀m,m<n+1->ao m):aP TZp (Om (n+1)):=bG Tryz.f169 (xi n) (hT:=.m1 (hY n (H n (aam n))))
theorem Y5 (n:Nat)(H:ao n):pI TZp (Qr n):=.cons (dw (l:=[⟨75,[aJ,aJ],λa c=>aO n a.1 a.2 c.1 c.2⟩]) (.cons (λa c=>aV (by kernel_rfl) ((H).2.2.1 (a.1,a.2,c.1,c.2))) .nil) (λx a=>by kernel_rfl)) .nil
theorem qO (n:Nat)(H:∀m,m<n+1->ao m):aP TZp (On (n+1)):=bG Tryz.f185 (xi n) (dl:=Qr n) (dr:=Y4) (hT:=⟨.nil,hY n (H n (aam n)),(Y5 n (H n (aam n))),.nil,.nil⟩)
theorem u9:∀n m,m<n->ao m:=by
 intro n
 induction n with
 |zero=>intro m hm;exact absurd hm (agI m)
 |succ n ih=>
  intro m hm;cases m with
  |zero=>exact⟨gu (fn:=Tryz.f48) (by kernel_rfl) (by kernel_rfl) (by kernel_rfl) (λ_=>rfl),gu (fn:=Tryz.f74) (by kernel_rfl) (by kernel_rfl) (by kernel_rfl) (λ_=>rfl),gu (fn:=Tryz.f75) (by kernel_rfl) (by kernel_rfl) (by kernel_rfl) (λ_=>rfl),gu (fn:=Tryz.f76) (by kernel_rfl) (by kernel_rfl) (by kernel_rfl) (λ_=>rfl),gu (fn:=Tryz.f104) (by kernel_rfl) (by kernel_rfl) (by kernel_rfl) (λ_=>rfl),gu (fn:=Tryz.f106) (by kernel_rfl) (by kernel_rfl) (by kernel_rfl) (λ_=>rfl),gu (fn:=Tryz.f136) (by kernel_rfl) (by kernel_rfl) (by kernel_rfl) (λ_=>rfl),gu (fn:=Tryz.f137) (by kernel_rfl) (by kernel_rfl) (by kernel_rfl) (λ_=>rfl),gu (fn:=Tryz.f139) (by kernel_rfl) (by kernel_rfl) (by kernel_rfl) (λ_=>rfl),gu (fn:=Tryz.f141) (by kernel_rfl) (by kernel_rfl) (by kernel_rfl) (λ_=>rfl),gu (fn:=Tryz.f142) (by kernel_rfl) (by kernel_rfl) (by kernel_rfl) (λ_=>rfl),gu (fn:=Tryz.f143) (by kernel_rfl) (by kernel_rfl) (by kernel_rfl) (λ_=>rfl),gu (fn:=Tryz.f165) (by kernel_rfl) (by kernel_rfl) (by kernel_rfl) (λ_=>rfl),gu (fn:=Tryz.f168) (by kernel_rfl) (by kernel_rfl) (by kernel_rfl) (λ_=>rfl),gu (fn:=Tryz.f169) (by kernel_rfl) (by kernel_rfl) (by kernel_rfl) (λ_=>rfl),gu (fn:=Tryz.f185) (by kernel_rfl) (by kernel_rfl) (by kernel_rfl) (λ_=>rfl)⟩
  |succ k=>exact⟨uc k λm hm=>ih m (by omega),rz k λm hm=>ih m (by omega),sU k λm hm=>ih m (by omega),xX k λm hm=>ih m (by omega),p5 k λm hm=>ih m (by omega),yT k λm hm=>ih m (by omega),nV k λm hm=>ih m (by omega),pR k λm hm=>ih m (by omega),oN k λm hm=>ih m (by omega),kU k λm hm=>ih m (by omega),nK k λm hm=>ih m (by omega),pn k λm hm=>ih m (by omega),pS k λm hm=>ih m (by omega),nL k λm hm=>ih m (by omega),qN k λm hm=>ih m (by omega),qO k λm hm=>ih m (by omega)⟩
theorem K78 (n:Nat):aI TZp (xi n):=hY n (u9 (n+1) n (aam n))
structure aZ where
 iI:Addr->Addr->Int->θ->Addr->Sl->Int->Int->M Unit
 gP:Int->Addr->Addr->Addr->Addr->Addr->Addr->M Int
def iA (G:aZ)(n:Nat)(x:ξ)(a0:Int):M Int:=if rh oz x then sh (pG [aJ,aJ,aJ,aJ,aJ,aJ] x) λ(c:Addr×Addr×Addr×Addr×Addr×Addr)=>G.gP a0 c.1 c.2.1 c.2.2.1 c.2.2.2.1 c.2.2.2.2.1 c.2.2.2.2.2 else AS
abbrev sV:=iA
def gO (G:aZ)(n:Nat)(a0 a1:Addr)(a2:Int)(a3:θ)(a4:Addr)(a5:Int)(a6:Sl)(a7 a8:Int):M Unit:=sh (nn a3) λx0=>sh (ar .sl (a4.plus 4)) λ(x1:Sl)=>sh (ar .raw a0) λ(x2:ξ)=>sh (ar .sl (x0.plus 4)) λ(x3:Sl)=>sh (aw x3 a5 1) λx4=>sh (ar li x4) λ(x5:Int)=>sh (mY [some (a4.plus 4)] (sV G n x2 x5)) λx6=>sh (app true x1 1 av 1 [vi x6]) λx7=>sh (bF (a4.plus 4) [aH x7]) λx8=>G.iI a0 a1 a2 a3 a4 a6 a7 (i64.wrap (a8+1))
def oZ (G:aZ)(n:Nat)(a0 a1:Addr)(a2:Int)(a3:θ)(a4:Addr)(a5:Sl)(a6 a7:Int):M Unit:=if decide (a7<a6) then sh (aw a5 a7 1) λx0=>sh (ar li x0) λ(x1:Int)=>sh (nn a3) λx2=>sh (ar li (x2.plus 0)) λ(x3:Int)=>if decide (x3=10) then sh (nn a3) λx4=>sh (ar .sl (a4.plus 3)) λ(x5:Sl)=>sh (ar .raw a0) λ(x6:ξ)=>sh (ar .sl (x4.plus 3)) λ(x7:Sl)=>sh (aw x7 x1 1) λx8=>sh (ar li x8) λ(x9:Int)=>sh (mY [some (a4.plus 3)] (iA G n x6 x9)) λx10=>sh (app true x5 1 av 1 [vi x10]) λx11=>sh (bF (a4.plus 3) [aH x11]) λx12=>gO G n a0 a1 a2 a3 a4 x1 a5 a6 a7 else gO G n a0 a1 a2 a3 a4 x1 a5 a6 a7 else AI ()
def r7 (G:aZ)(n:Nat)(a0:Int)(a1 a2 a3 a4 a5 a6:Addr):M Int:=sh (ar .sl a1) λ(x0:Sl)=>sh (aw x0 a0 1) λx1=>sh (ar li x1) λ(x2:Int)=>if decide (0<=x2) then sh (ar .sl a1) λ(x3:Sl)=>sh (aw x3 a0 1) λx4=>sh (ar li x4) λ(x5:Int)=>AI x5 else sh (ar li a2) λ(x3:Int)=>sh (ar .sl a1) λ(x4:Sl)=>sh (aw x4 a0 1) λx5=>sh (bF x5 [vi x3]) λx6=>sh (ar li a2) λ(x7:Int)=>sh (bF a2 [vi (i64.wrap (x7+1))]) λx8=>sh (ar .sl (a3.plus 0)) λ(x9:Sl)=>sh (aw x9 a0 5) λx10=>sh (eC 15) λx11=>sh (nn (some x10)) λx12=>sh (nn (some x10)) λx13=>sh (nn (some x10)) λiY=>sh (ar li (x12.plus 0)) λ(x15:Int)=>sh (ar .str (x13.plus 1)) λ(pT:ζ)=>sh (ar .bool (iY.plus 2)) λ(x17:Bool)=>sh (aM (some (x11+13)) az [vi 0,.string (ofBytes []),.bool false,aT,aT]) λrF=>sh (bF (an rF) [vi x15,.string pT,.bool x17,aT,aT]) λx19=>sh (ar .ptr a4) λ(x20:θ)=>sh (dZ n x20 a0) λx21=>sh (G.iI a5 a6 x3 (some x10) (an rF) x21 (↑x21.len:Int) 0) λx22=>sh (ar .sl (a6.plus 0)) λ(x23:Sl)=>sh (aN [li,.str,.bool,.sl,.sl] (an rF)) λ(x24:Int×ζ×Bool×Sl×Sl)=>sh (aw x23 x3 5) λx25=>sh (bF x25 [vi x24.1,.string x24.2.1,.bool x24.2.2.1,aH x24.2.2.2.1,aH x24.2.2.2.2]) λx26=>AI x3
def aZ.at:Nat->aZ|0=>⟨λ_ _ _ _ _ _ _ _=>AS,λ_ _ _ _ _ _ _=>AS⟩|n+1=>⟨oZ (aZ.at n) n,r7 (aZ.at n) n⟩
def iI (n:Nat):=(aZ.at n).iI
def gP (n:Nat):=(aZ.at n).gP
def AQ (n:Nat):=iA (aZ.at n) n
def AR (n:Nat):=sV (aZ.at n) n
def yU (n:Nat):=gO (aZ.at n) n
abbrev Qu (n:Nat):bB:=⟨47,[aC,aJ,aJ,aJ,aJ,aJ,aJ],[aC],υ7 (gP n)⟩
abbrev JP:L1:=⟨[0,1,0,1,1,1,1,1,1,1],[(5,aJ),(6,aJ),(9,aC),(10,uo),(11,aJ),(49,cN),(50,aC),(51,aC)],[],[13]++List.range' 51 38,0,λn=>υ8 (iI n)⟩
abbrev C79 (n:Nat):List bB:=Qu n::xi n
abbrev OS (n:Nat):List jM:=[⟨62,[aC],[aC],λx a=>AQ n x a⟩, ⟨76,[aC],[aC],λx a=>AR n x a⟩]
def VM (i:Nat):Option (List (Nat×η)):=Κ i 7 (Ω [0,1,2,4,5,6,8,9,10,3,7,11,12,13,14]) (Κ i 12 (Ω [0,3,4,5,7,1,2,6,8,9]++[(10,[1])]++Ω [11,12,13,14]) (Κ i 13 (Ω [0,3,4,5,7,1,2,6,8,9]++[(10,[1])]++Ω [11,12,13,14]) none))
abbrev SU (n:Nat):List (gC Unit):=[⟨[1,1,0,0,1,1,0,0,1,0,1,1,1,1,1,1,1],[.au 1,.code [1,1,1,0,0,1,0,1,1,1,1,1,1,1]],[(5,aJ),(6,aJ),(9,aC),(10,uo),(11,aJ),(13,aC),(49,cN),(50,aC),(51,aC)],υ9 (yU n)⟩]
def lX (n:Nat):Prop:=aP TZp (Qu n)
theorem VN (n:Nat)(H:lX n):aI TZp (C79 n):=.cons H (K78 n)
theorem VO (n:Nat)(H:lX n):pI TZp (OS n):=.cons (dw (l:=[⟨47,[aJ,aJ,aJ,aJ,aJ,aJ],λa c=>gP n a c.1 c.2.1 c.2.2.1 c.2.2.2.1 c.2.2.2.2.1 c.2.2.2.2.2⟩]) (.cons (λa c=>aV (by kernel_rfl) ((H) (a,c.1,c.2.1,c.2.2.1,c.2.2.2.1,c.2.2.2.2.1,c.2.2.2.2.2))) .nil) (λx a=>by kernel_rfl)) (.cons (dw (l:=[⟨47,[aJ,aJ,aJ,aJ,aJ,aJ],λa c=>gP n a c.1 c.2.1 c.2.2.1 c.2.2.2.1 c.2.2.2.2.1 c.2.2.2.2.2⟩]) (.cons (λa c=>aV (by kernel_rfl) ((H) (a,c.1,c.2.1,c.2.2.1,c.2.2.2.1,c.2.2.2.2.1,c.2.2.2.2.2))) .nil) (λx a=>by kernel_rfl)) .nil)
theorem SV (n:Nat)(H:∀m,m<n->lX m):kZ TZp Tryz.f47 (JP.e n) JP.ws:=L1.ok Tryz.f47 JP n C79 (dt:=OS) (dr:=VM) (jt:=SU) (hT:=λm hm=>⟨.nil,VN m (H m hm),(VO m (H m hm)),.nil,(.cc .nil)⟩)
theorem xk (n:Nat)(H:∀m,m<n+1->lX m):aP TZp (Qu (n+1)):=bG Tryz.f47 (C79 n) (dl:=OS n) (ll:=[JP.e n]) (dr:=VM) (hT:=⟨.nil,VN n (H n (aam n)),(VO n (H n (aam n))),(.cc (SV n (λk hk=>H k (ab8 hk))) .nil),.nil⟩)
theorem sW:∀n m,m<n->lX m:=by
 intro n
 induction n with
 |zero=>intro m hm;exact absurd hm (agI m)
 |succ n ih=>
  intro m hm;cases m with
  |zero=>exact gu (fn:=Tryz.f47) (by kernel_rfl) (by kernel_rfl) (by kernel_rfl) (λ_=>rfl)
  |succ k=>exact xk k λm hm=>ih m (by omega)
theorem BE (n:Nat):aP TZp (Qu n):=(sW (n+1) n (aam n))
theorem K79 (n:Nat):aI TZp (C79 n):=VN n (sW (n+1) n (aam n))
def r8 (n:Nat)(x:ξ)(a0:Int):M Int:=if rh oz x then sh (pG [aJ,aJ,aJ,aJ,aJ,aJ] x) λ(c:Addr×Addr×Addr×Addr×Addr×Addr)=>gP n a0 c.1 c.2.1 c.2.2.1 c.2.2.2.1 c.2.2.2.2.1 c.2.2.2.2.2 else AS
def qP (G:Addr->Addr->Addr->Addr->Int->Int->M Unit)(n:Nat)(a0 a1 a2 a3:Addr)(a4 a5:Int):M Unit:=if decide (a5<a4) then sh (ar .sl a3) λ(x0:Sl)=>sh (aw x0 a5 1) λx1=>sh (bF x1 [vi (-1)]) λx2=>G a0 a1 a2 a3 a4 (i64.wrap (a5+1)) else AI ()
def ko:Nat->Addr->Addr->Addr->Addr->Int->Int->M Unit|0=>λ_ _ _ _ _ _=>AS|n+1=>qP (ko n) n
theorem yV (n:Nat):ko (n+1)=qP (ko n) n:=rfl
def ud (n:Nat)(a0:Sl×Int):M (Sl×Int):=sh (aM none aj [aH a0.1,vi a0.2]) λx0=>sh (aM none aj [aT,vi 0]) λx1=>sh (aN [.sl,li] (an x0)) λ(x2:Sl×Int)=>sh (yR n (x2.1,x2.2)) λx3=>sh (aM none bJ [.pointer none]) λx4=>sh (bF (an x4) [.pointer x3]) λx5=>sh (ar .sl ((an x0).plus 0)) λ(x6:Sl)=>sh (vS none av [vi 0] (↑x6.len:Int) (↑x6.len:Int)) λx7=>sh (aM none aQ [aT]) λx8=>sh (bF (an x8) [aH x7]) λx9=>sh (ar .sl (an x8)) λ(x10:Sl)=>sh (ko n (an x0) (an x1) (an x4) (an x8) (↑x10.len:Int) 0) λx11=>sh (ar .sl ((an x0).plus 0)) λ(x12:Sl)=>sh (vS none az [vi 0,.string (ofBytes []),.bool false,aT,aT] (↑x12.len:Int) (↑x12.len:Int)) λx13=>sh (aM none aj [aT,vi 0]) λiY=>sh (bF (an iY) [aH x13,vi 0]) λx15=>sh (aM none av [vi 0]) λpT=>sh (bF (an pT) [vi 0]) λx17=>sh (aM none o9 [Value.nilFunc]) λrF=>sh (bF (an rF) [.func (Fn.func oz) #[] #[.pointer (some (an x8)),.pointer (some (an pT)),.pointer (some (an x0)),.pointer (some (an x4)),.pointer (some (an rF)),.pointer (some (an iY))]]) λx19=>sh (ar .raw (an rF)) λ(x20:ξ)=>sh (ar li ((an x0).plus 1)) λ(x21:Int)=>sh (r8 n x20 x21) λx22=>sh (aN [.sl,li] (an iY)) λ(x23:Sl×Int)=>sh (bF (an x1) [aH x23.1,vi x23.2]) λx24=>sh (aN [.sl,li] (an x1)) λ(x25:Sl×Int)=>AI (x25.1,x25.2)
abbrev abr (n:Nat):bB:=⟨35,[.agg [.sl,.int .i64]],[.agg [.sl,.int .i64]],λx=>ud n x⟩
abbrev JQ:L1:=⟨[0,1,0,1,1,1],[(1,aJ),(2,aJ),(3,aJ),(4,aJ),(16,aC),(17,aC)],[],[5]++List.range' 17 7,0,λn=>υ6 (ko n)⟩
abbrev OT (n:Nat):List jM:=[⟨30,[aC],[aC],λx a=>r8 n x a⟩]
theorem VR (n:Nat):pI TZp (OT n):=.cons (dw (l:=[⟨47,[aJ,aJ,aJ,aJ,aJ,aJ],λa c=>gP n a c.1 c.2.1 c.2.2.1 c.2.2.2.1 c.2.2.2.2.1 c.2.2.2.2.2⟩]) (.cons (λa c=>aV (by kernel_rfl) ((BE n) (a,c.1,c.2.1,c.2.2.1,c.2.2.2.1,c.2.2.2.2.1,c.2.2.2.2.2))) .nil) (λx a=>by kernel_rfl)) .nil
theorem SW (n:Nat):kZ TZp Tryz.f35 (JQ.e n) JQ.ws:=L1.ok Tryz.f35 JQ n C79 (dt:=OT) (hT:=λm _=>⟨.nil,K79 m,(VR m),.nil,.nil⟩)
theorem D5 (n:Nat):aP TZp (abr n):=bG Tryz.f35 (C79 n) (dl:=OT n) (ll:=[JQ.e n]) (hT:=⟨.nil,K79 n,(VR n),(.cc (SW n) .nil),.nil⟩)
abbrev C80 (n:Nat):List bB:=abr n::C79 n
theorem K80 (n:Nat):aI TZp (C80 n):=.cons (D5 n) (K79 n)
def qQ (n:Nat)(a0:Sl×Int):M ((Sl×Int)×Int):=sh (aM none aj [aH a0.1,vi a0.2]) λx0=>sh (aM none aj [aT,vi 0]) λx1=>sh (aN [.sl,li] (an x0)) λ(x2:Sl×Int)=>sh (kG n (x2.1,x2.2)) λx3=>if !decide (x3=0) then sh (bF (an x1) [aT,vi 0]) λx4=>sh (aN [.sl,li] (an x1)) λ(x5:Sl×Int)=>AI ((x5.1,x5.2),3) else sh (aN [.sl,li] (an x0)) λ(x4:Sl×Int)=>sh (ud n (x4.1,x4.2)) λx5=>sh (bF (an x1) [aH x5.1,vi x5.2]) λx6=>sh (aN [.sl,li] (an x1)) λ(x7:Sl×Int)=>AI ((x7.1,x7.2),0)
abbrev abt (n:Nat):bB:=⟨24,[.agg [.sl,.int .i64]],[.agg [.sl,.int .i64],aC],λx=>qQ n x⟩
theorem D6 (n:Nat):aP TZp (abt n):=bG Tryz.f24 (C80 n) (hT:=.m1 (K80 n))
abbrev C81 (n:Nat):List bB:=abt n::C80 n
theorem K81 (n:Nat):aI TZp (C81 n):=.cons (D6 n) (K80 n)
def qR (G:Addr->Sl->Sl->Int->Int->M Unit)(n:Nat)(a0:Addr)(a1 a2:Sl)(a3 a4:Int):M Unit:=if decide (a4<a3) then sh (aw a2 a4 1) λx0=>sh (ar li x0) λ(x1:Int)=>sh (ar .sl a0) λ(x2:Sl)=>sh (aw x2 x1 1) λx3=>sh (ar li x3) λ(x4:Int)=>sh (aw a1 a4 1) λx5=>sh (bF x5 [vi x4]) λx6=>G a0 a1 a2 a3 (i64.wrap (a4+1)) else AI ()
def kr:Nat->Addr->Sl->Sl->Int->Int->M Unit|0=>λ_ _ _ _ _=>AS|n+1=>qR (kr n) n
theorem yW (n:Nat):kr (n+1)=qR (kr n) n:=rfl
def mJ (n:Nat)(a0:Sl)(a1:Addr):M Sl:=sh (vS none av [vi 0] (↑a0.len:Int) (↑a0.len:Int)) λx0=>sh (kr n a1 x0 a0 (↑a0.len:Int) 0) λx1=>AI x0
abbrev VS (n:Nat):bB:=⟨107,[cN,aJ],[cN],υ2 (mJ n)⟩
abbrev EK:L1:=⟨[0,1,0,1,1],[(1,aJ),(4,cN),(10,cN),(11,aC),(12,aC)],[],[5,6]++List.range' 12 13,0,λn=>υ5 (kr n)⟩
theorem OU (n:Nat):kZ TZp Tryz.f107 (EK.e n) EK.ws:=L1.ok Tryz.f107 EK n C81 (hT:=λm _=>.m1 (K81 m))
theorem tA (n:Nat):aP TZp (VS n):=bG Tryz.f107 (C81 n) (ll:=[EK.e n]) (hT:=⟨.nil,K81 n,.nil,(.cc (OU n) .nil),.nil⟩)
abbrev C82 (n:Nat):List bB:=VS n::C81 n
theorem K82 (n:Nat):aI TZp (C82 n):=.cons (tA n) (K81 n)
def uQ (n:Nat)(x:ξ)(a0:Sl):M Sl:=if rh qn x then sh (pG [aJ] x) λ(c:Addr)=>mJ n a0 c else AS
def uR (n:Nat)(x:ξ)(a0:Sl):M Sl:=if rh qn x then sh (pG [aJ] x) λ(c:Addr)=>mJ n a0 c else AS
def tB (G:Addr->Sl->Addr->ξ->Sl->Int->Int->M Unit)(n:Nat)(a0:Addr)(a1:Sl)(a2:Addr)(a3:ξ)(a4:Sl)(a5 a6:Int):M Unit:=if decide (a6<a5) then sh (aw a4 a6 5) λx0=>sh (aN [li,.str,.bool,.sl,.sl] x0) λ(x1:Int×ζ×Bool×Sl×Sl)=>sh (aM none az [vi 0,.string (ofBytes []),.bool false,aT,aT]) λx2=>sh (bF (an x2) [vi x1.1,.string x1.2.1,.bool x1.2.2.1,aH x1.2.2.2.1,aH x1.2.2.2.2]) λx3=>sh (aw a1 a6 1) λx4=>sh (ar .bool x4) λ(x5:Bool)=>if x5 then sh (ar .sl ((an x2).plus 3)) λ(x6:Sl)=>sh (ar .sl ((an x2).plus 4)) λ(x7:Sl)=>sh (mY [some ((an x2).plus 4)] (uQ n a3 x6)) λx8=>sh (uR n a3 x7) λx9=>sh (bF ((an x2).plus 3) [aH x8]) λx10=>sh (bF ((an x2).plus 4) [aH x9]) λx11=>sh (ar .sl (a2.plus 0)) λ(x12:Sl)=>sh (aN [li,.str,.bool,.sl,.sl] (an x2)) λ(x13:Int×ζ×Bool×Sl×Sl)=>sh (app false x12 5 az 1 [vi x13.1,.string x13.2.1,.bool x13.2.2.1,aH x13.2.2.2.1,aH x13.2.2.2.2]) λiY=>sh (bF (a2.plus 0) [aH iY]) λx15=>G a0 a1 a2 a3 a4 a5 (i64.wrap (a6+1)) else G a0 a1 a2 a3 a4 a5 (i64.wrap (a6+1)) else AI ()
def nj:Nat->Addr->Sl->Addr->ξ->Sl->Int->Int->M Unit|0=>λ_ _ _ _ _ _ _=>AS|n+1=>tB (nj n) n
theorem AU (n:Nat):nj (n+1)=tB (nj n) n:=rfl
def tC (G:Addr->Addr->Sl->Addr->Int->Sl->Int->Int->M Unit)(n:Nat)(a0 a1:Addr)(a2:Sl)(a3:Addr)(a4:Int)(a5:Sl)(a6 a7:Int):M Unit:=if decide (a7<a6) then sh (aw a5 a7 1) λx0=>sh (ar .bool x0) λ(x1:Bool)=>sh (ar .sl a3) λ(x2:Sl)=>sh (aw x2 a7 1) λx3=>sh (bF x3 [vi a4]) λx4=>if x1 then G a0 a1 a2 a3 (i64.wrap (a4+1)) a5 a6 (i64.wrap (a7+1)) else G a0 a1 a2 a3 a4 a5 a6 (i64.wrap (a7+1)) else AI ()
def np:Nat->Addr->Addr->Sl->Addr->Int->Sl->Int->Int->M Unit|0=>λ_ _ _ _ _ _ _ _=>AS|n+1=>tC (np n) n
theorem AV (n:Nat):np (n+1)=tC (np n) n:=rfl
def xl (n:Nat)(a0:Sl×Int):M (Sl×Int):=sh (aM none aj [aH a0.1,vi a0.2]) λx0=>sh (aM none aj [aT,vi 0]) λx1=>sh (ar .sl ((an x0).plus 0)) λ(x2:Sl)=>sh (vS none vG [.bool false] (↑x2.len:Int) (↑x2.len:Int)) λx3=>sh (aN [.sl,li] (an x0)) λ(x4:Sl×Int)=>sh (ar li ((an x0).plus 1)) λ(x5:Int)=>sh (nf n (x4.1,x4.2) x5 x3) λx6=>sh (ar .sl ((an x0).plus 0)) λ(x7:Sl)=>sh (vS none av [vi 0] (↑x7.len:Int) (↑x7.len:Int)) λx8=>sh (aM none aQ [aT]) λx9=>sh (bF (an x9) [aH x8]) λx10=>sh (np n (an x0) (an x1) x3 (an x9) 0 x3 (↑x3.len:Int) 0) λx11=>sh (ar .sl (an x9)) λ(x12:Sl)=>sh (ar li ((an x0).plus 1)) λ(x13:Int)=>sh (aw x12 x13 1) λiY=>sh (ar li iY) λ(x15:Int)=>sh (aM none aj [aT,vi 0]) λpT=>sh (bF (an pT) [aT,vi x15]) λx17=>sh (ar .sl ((an x0).plus 0)) λ(rF:Sl)=>sh (nj n (an x1) x3 (an pT) (Value.func (Fn.func qn) #[] #[.pointer (some (an x9))]) rF (↑rF.len:Int) 0) λx19=>sh (aN [.sl,li] (an pT)) λ(x20:Sl×Int)=>sh (bF (an x1) [aH x20.1,vi x20.2]) λx21=>sh (aN [.sl,li] (an x1)) λ(x22:Sl×Int)=>AI (x22.1,x22.2)
abbrev abu (n:Nat):bB:=⟨77,[.agg [.sl,.int .i64]],[.agg [.sl,.int .i64]],λx=>xl n x⟩
abbrev JR:L1:=⟨[0,1,0,1,1,1,1,1],[(1,aJ),(2,aJ),(3,cN),(4,aJ),(5,aC),(25,cN),(26,aC),(27,aC)],[],[5,6,7]++List.range' 27 13,0,λn=>υ8 (np n)⟩
abbrev JS:L1:=⟨[0,1,0,1,1,1,1,1,1,1,1],[(2,aJ),(3,cN),(8,aJ),(9,sQ),(48,cN),(49,aC),(50,aC)],[],[10,11]++List.range' 50 26,2,λn=>υ7 (nj n)⟩
abbrev JT (n:Nat):List jM:=[⟨59,[cN],[cN],λx a=>uQ n x a⟩, ⟨63,[cN],[cN],λx a=>uR n x a⟩]
def OW (i:Nat):Option (List (Nat×η)):=Κ i 18 (Ω [0,1,4,5,2,6]++[(3,[6])]++Ω [8,7,9,10,11]) none
theorem OX (n:Nat):pI TZp (JT n):=.cons (dw (l:=[⟨107,[aJ],λa c=>mJ n a c⟩]) (.cons (λa c=>aV (by kernel_rfl) ((tA n) (a,c))) .nil) (λx a=>by kernel_rfl)) (.cons (dw (l:=[⟨107,[aJ],λa c=>mJ n a c⟩]) (.cons (λa c=>aV (by kernel_rfl) ((tA n) (a,c))) .nil) (λx a=>by kernel_rfl)) .nil)
theorem SX (n:Nat):kZ TZp Tryz.f77 (JS.e n) JS.ws:=L1.ok Tryz.f77 JS n C82 (dt:=JT) (dr:=OW) (hT:=λm _=>⟨.nil,K82 m,(OX m),.nil,.nil⟩)
theorem SY (n:Nat):kZ TZp Tryz.f77 (JR.e n) JR.ws:=L1.ok Tryz.f77 JR n C82 (dt:=JT) (dr:=OW) (hT:=λm _=>⟨.nil,K82 m,(OX m),.nil,.nil⟩)
theorem Hh (n:Nat):aP TZp (abu n):=bG Tryz.f77 (C82 n) (dl:=JT n) (ll:=[JR.e n,JS.e n]) (dr:=OW) (hT:=⟨.nil,K82 n,(OX n),(.cc (SY n) (.cc (SX n) .nil)),.nil⟩)
abbrev C83 (n:Nat):List bB:=abu n::C82 n
theorem K83 (n:Nat):aI TZp (C83 n):=.cons (Hh n) (K82 n)
def r9 (n:Nat)(a0:Sl×Int)(a1:Int):M ((Sl×Int)×Int):=sh (aM none aj [aH a0.1,vi a0.2]) λx0=>sh (aM none aj [aT,vi 0]) λx1=>sh (aN [.sl,li] (an x0)) λ(x2:Sl×Int)=>sh (kG n (x2.1,x2.2)) λx3=>if !decide (x3=0) then sh (bF (an x1) [aT,vi 0]) λx4=>sh (aN [.sl,li] (an x1)) λ(x5:Sl×Int)=>AI ((x5.1,x5.2),3) else if decide (a1<0) then sh (bF (an x1) [aT,vi 0]) λx4=>sh (aN [.sl,li] (an x1)) λ(x5:Sl×Int)=>AI ((x5.1,x5.2),2) else sh (ar .sl ((an x0).plus 0)) λ(x4:Sl)=>if decide ((↑x4.len:Int)<=a1) then sh (bF (an x1) [aT,vi 0]) λx5=>sh (aN [.sl,li] (an x1)) λ(x6:Sl×Int)=>AI ((x6.1,x6.2),2) else sh (ar .sl ((an x0).plus 0)) λ(x5:Sl)=>sh (xl n (x5,a1)) λx6=>sh (bF (an x1) [aH x6.1,vi x6.2]) λx7=>sh (aN [.sl,li] (an x1)) λ(x8:Sl×Int)=>AI ((x8.1,x8.2),0)
abbrev abv (n:Nat):bB:=⟨49,[.agg [.sl,.int .i64],aC],[.agg [.sl,.int .i64],aC],υ2 (r9 n)⟩
theorem JU (n:Nat):aP TZp (abv n):=bG Tryz.f49 (C83 n) (hT:=.m1 (K83 n))
abbrev C84 (n:Nat):List bB:=abv n::C83 n
theorem K84 (n:Nat):aI TZp (C84 n):=.cons (JU n) (K83 n)
def vo (n:Nat)(a0:Sl×Int):M (Int×Bool):=sh (aM none aj [aH a0.1,vi a0.2]) λx0=>sh (aN [.sl,li] (an x0)) λ(x1:Sl×Int)=>sh (kG n (x1.1,x1.2)) λx2=>if !decide (x2=0) then AI (0,false) else sh (aN [.sl,li] (an x0)) λ(x3:Sl×Int)=>sh (sS n (x3.1,x3.2)) λx4=>AI (x4.1,x4.2)
abbrev VT (n:Nat):bB:=⟨108,[.agg [.sl,.int .i64]],[aC,jT],λx=>vo n x⟩
theorem F5 (n:Nat):aP TZp (VT n):=bG Tryz.f108 (C84 n) (hT:=.m1 (K84 n))
abbrev C85 (n:Nat):List bB:=VT n::C84 n
theorem K85 (n:Nat):aI TZp (C85 n):=.cons (F5 n) (K84 n)
end Go.Sh
