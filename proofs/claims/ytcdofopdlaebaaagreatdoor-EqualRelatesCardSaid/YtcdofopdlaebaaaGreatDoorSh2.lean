
import Derived.Test.YtcdofopdlaebaaaGreatDoorSh1
set_option linter.all false
set_option maxRecDepth 100000
set_option maxHeartbeats 0
namespace Go.Sh
open Go Go.Ago Go.Proofs Go.IntKind
structure aa where
 eW:Int->Addr->Addr->Sl->Int->Int->M Unit
 dX:Option Addr->Int->M Sl
 dE:Sl->Value->M Unit
 aN:Int->Int->Addr->Addr->M Int
 kr:Option Addr->Int->Option Addr->Int->Option Nat->M Int
 bJ:Sl->Int->Int->Int->Value->Bool->Bool->M Unit
 cV:Sl->Int->Int->Int->Value->M Unit
 iD:Option Addr->Option Addr->Option Nat->Option Addr->Option Addr->Sl->Sl->Int->Int->M (Unit⊕Int)
 qd:Option Addr->Int->Option Addr->Int->Option Nat->M Int
 bW:Sl->Int->Int->Value->Int->Int->M Unit
 bX:Sl->Int->Int->Value->Int->M Unit
 dz:Sl->Int->Int->Value->M Unit
 cM:Sl->Value->Int->Int->Int->Int->M Unit
 cN:Sl->Value->Int->Int->Int->M Unit
 eL:Sl->Int->Int->Value->M Unit
 dJ:Sl->Int->Int->Value->M (Int×Int)
 bK:Sl->Int->Int->Value->Int->Int->Int->M Unit
 bL:Sl->Int->Int->Value->Int->Int->Int->M Unit
 bt:Sl->Int->Int->Value->Int->Int->M Int
 bu:Sl->Int->Int->Value->Int->Int->M (Unit⊕Bool)
 b7:Sl->Int->Int->Value->M Bool
 bO:Sl->Int->Value->Int->Int->M Int
 bP:Sl->Int->Value->Int->Int->M Int
 bQ:Sl->Int->Value->Int->Int->M Int
 di:Sl->Int->Int->Int->Value->M Int
 cD:Sl->Int->Value->Int->Int->M Int
 cF:Sl->Int->Value->Int->Int->M Int
 cG:Sl->Int->Value->Int->Int->M Int
 cH:Sl->Int->Value->Int->Int->M Int
 cI:Sl->Int->Value->Int->Int->M Int
 eA:Sl->Int->Int->Int->Value->M (Int×Bool)
 cO:Sl->Int->Int->Value->Int->M (Unit⊕Unit)
 dF:Sl->Int->Int->Int->Value->M Unit
 cp:Sl->Int->Option Addr->Value->M Int
 dn:Sl->Int->Int->Int->Option Addr->Value->M Int
 dp:Sl->Int->Int->Option Addr->Value->M (Int×Int)
def az (G:aa)(n:Nat)(x:Value)(a0 a1:Int):M Int:=if qw hC x then sh (oX [aK,aK] x) λ(c:Addr×Addr)=>G.aN a0 a1 c.1 c.2 else AS
abbrev hZ:=az
abbrev fT:=az
abbrev fU:=az
abbrev fL:=az
abbrev gT:=az
abbrev gU:=az
abbrev jA:=az
abbrev jB:=az
abbrev jm:=az
abbrev jn:=az
abbrev j7:=az
abbrev j8:=az
abbrev lr:=az
def kp (G:aa)(n:Nat)(a0:Int)(a1 a2:Addr)(a3:Sl)(a4 a5:Int):M Unit:=if decide (a5<a4) then sh (av a3 a5 1) λx0=>sh (bG x0 [vi a5]) λx1=>G.eW a0 a1 a2 a3 a4 (i64.wrap (a5+1)) else AI ()
def kq (G:aa)(n:Nat)(a0:Int)(a1 a2:Addr)(a3:Sl):M Sl:=sh (G.dE a3 (Value.func (Fn.func hC) #[] #[.pointer (some a1),.pointer (some a2)])) λx0=>sh (aq .ptr a1) λ(x1:Option Addr)=>sh (nn x1) λx2=>sh (aq .sl (x2.plus 2)) λ(x3:Sl)=>sh (av x3 a0 1) λx4=>sh (bG x4 [aE a3]) λx5=>AI a3
def mP (G:aa)(n:Nat)(a0:Option Addr)(a1:Int):M Sl:=sh (aO none bI [.pointer a0]) λx0=>sh (aq .ptr (ak x0)) λ(x1:Option Addr)=>sh (nn x1) λx2=>sh (aq .sl ((x2.plus 0).plus 0)) λ(x3:Sl)=>sh (av x3 a1 5) λx4=>sh (aO none eO [.pointer none]) λx5=>sh (bG (ak x5) [.pointer (some x4)]) λx6=>sh (aq .ptr (ak x0)) λ(x7:Option Addr)=>sh (nn x7) λx8=>sh (aq .sl (x8.plus 2)) λ(x9:Sl)=>sh (av x9 a1 1) λx10=>sh (aq .sl x10) λ(x11:Sl)=>if !x11.a.isNone then sh (aq .ptr (ak x0)) λ(x12:Option Addr)=>sh (nn x12) λx13=>sh (aq .sl (x13.plus 2)) λ(iK:Sl)=>sh (av iK a1 1) λx15=>sh (aq .sl x15) λ(po:Sl)=>AI po else sh (aq .ptr (ak x5)) λ(x12:Option Addr)=>sh (nn x12) λx13=>sh (aq .sl (x13.plus 4)) λ(iK:Sl)=>sh (vc none au [vi 0] (↑iK.len:Int) (↑iK.len:Int)) λx15=>sh (G.eW a1 (ak x0) (ak x5) x15 (↑x15.len:Int) 0) λpo=>sh (aq .ptr (ak x5)) λ(x17:Option Addr)=>sh (nn x17) λqH=>sh (aq li (qH.plus 0)) λ(x19:Int)=>if decide (x19=10) then sh (aq .ptr (ak x5)) λ(x20:Option Addr)=>sh (nn x20) λx21=>sh (aq .bool (x21.plus 2)) λ(x22:Bool)=>if !x22 then kq G n a1 (ak x0) (ak x5) x15 else sh (aq .ptr (ak x0)) λ(x23:Option Addr)=>sh (nn x23) λx24=>sh (aq .sl (x24.plus 2)) λ(x25:Sl)=>sh (av x25 a1 1) λx26=>sh (bG x26 [aE x15]) λx27=>AI x15 else sh (aq .ptr (ak x0)) λ(x20:Option Addr)=>sh (nn x20) λx21=>sh (aq .sl (x21.plus 2)) λ(x22:Sl)=>sh (av x22 a1 1) λx23=>sh (bG x23 [aE x15]) λx24=>AI x15
def jF (G:aa)(n:Nat)(a0:Sl)(a1:Value):M Unit:=sh (oG n (IntKind.u64.wrap (↑a0.len:Int))) λx0=>sh (G.cV a0 0 (↑a0.len:Int) x0 a1) λx1=>AI ()
def lu (G:aa)(n:Nat)(a0 a1:Int)(a2 a3:Addr):M Int:=sh (aq .ptr a2) λ(x0:Option Addr)=>sh (aq .ptr a3) λ(x1:Option Addr)=>sh (nn x1) λx2=>sh (aq .sl (x2.plus 3)) λ(x3:Sl)=>sh (av x3 a0 1) λx4=>sh (aq li x4) λ(x5:Int)=>sh (aq .ptr a2) λ(x6:Option Addr)=>sh (aq .ptr a3) λ(x7:Option Addr)=>sh (nn x7) λx8=>sh (aq .sl (x8.plus 3)) λ(x9:Sl)=>sh (av x9 a1 1) λx10=>sh (aq li x10) λ(x11:Int)=>sh (G.kr x0 x5 x6 x11 none) λx12=>AI x12
def sG (G:aa)(n:Nat)(a0:Option Addr)(a1:Int)(a2:Option Addr)(a3:Int)(a4:Option Nat):M Int:=sh (wN GY (Ty.one li) 0 a4 (Value.agg #[vi a1,vi a3])) λ(x0:Bool×Int)=>if x0.1 then AI x0.2 else sh (G.qd a0 a1 a2 a3 a4) λx1=>if !a4.isNone then sh (Ch GY a4 (Value.agg #[vi a1,vi a3]) (vi x1)) λx2=>AI x1 else AI x1
def cR (G:aa)(n:Nat)(a0:Sl)(a1 a2 a3:Int)(a4:Value)(a5 a6:Bool)(a7 a8:Int):M Unit:=sh (G.eA a0 a1 a2 a8 a4) λx0=>sh (kC (decide (8≠0))) λx1=>if decide (i64.wrap (x0.1-a1)<i64.wrap (a2-x0.1)) then sh (G.cV a0 a1 x0.1 a3 a4) λx2=>G.bJ a0 (i64.wrap (x0.1+1)) a2 a3 a4 (decide (i64.wrap (a7.tdiv 8)<=i64.wrap (x0.1-a1))) x0.2 else sh (G.cV a0 (i64.wrap (x0.1+1)) a2 a3 a4) λx2=>G.bJ a0 a1 x0.1 a3 a4 (decide (i64.wrap (a7.tdiv 8)<=i64.wrap (a2-x0.1))) x0.2
def bD (G:aa)(n:Nat)(a0:Sl)(a1 a2 a3:Int)(a4:Value)(a5 a6:Bool)(a7 a8:Int):M Unit:=if decide (0<a1) then sh (av a0 (i64.wrap (a1-1)) 1) λx0=>sh (av a0 a8 1) λx1=>sh (aq li x0) λ(x2:Int)=>sh (aq li x1) λ(x3:Int)=>sh (az G n a4 x2 x3) λx4=>if !decide (x4<0) then sh (G.di a0 a1 a2 a8 a4) λx5=>G.bJ a0 x5 a2 a3 a4 a5 a6 else cR G n a0 a1 a2 a3 a4 a5 a6 a7 a8 else cR G n a0 a1 a2 a3 a4 a5 a6 a7 a8
def cS (G:aa)(n:Nat)(a0:Sl)(a1 a2 a3:Int)(a4:Value)(a5 a6:Bool)(a7 a8 a9:Int):M Unit:=if a5 then if a6 then if decide (a9=1) then sh (G.b7 a0 a1 a2 a4) λx0=>if x0 then AI () else bD G n a0 a1 a2 a3 a4 a5 a6 a7 a8 else bD G n a0 a1 a2 a3 a4 a5 a6 a7 a8 else bD G n a0 a1 a2 a3 a4 a5 a6 a7 a8 else bD G n a0 a1 a2 a3 a4 a5 a6 a7 a8
def cT (G:aa)(n:Nat)(a0:Sl)(a1 a2 a3:Int)(a4:Value)(a5 a6:Bool)(a7:Int):M Unit:=sh (G.dJ a0 a1 a2 a4) λx0=>if decide (x0.2=2) then sh (eV n a0 a1 a2 a4) λx1=>cS G n a0 a1 a2 a3 a4 a5 a6 a7 (i64.wrap (i64.wrap (a2-1)-i64.wrap (x0.1-a1))) 1 else cS G n a0 a1 a2 a3 a4 a5 a6 a7 x0.1 x0.2
def dD (G:aa)(n:Nat)(a0:Sl)(a1 a2 a3:Int)(a4:Value)(a5 a6:Bool):M Unit:=if decide (i64.wrap (a2-a1)<=12) then sh (G.dz a0 a1 a2 a4) λx0=>AI () else if decide (a3=0) then sh (G.eL a0 a1 a2 a4) λx0=>AI () else if !a5 then sh (eH n a0 a1 a2 a4) λx0=>cT G n a0 a1 a2 (i64.wrap (a3-1)) a4 a5 a6 (i64.wrap (a2-a1)) else cT G n a0 a1 a2 a3 a4 a5 a6 (i64.wrap (a2-a1))
def ez (G:aa)(n:Nat)(a0:Sl)(a1 a2 a3:Int)(a4:Value):M Unit:=sh (G.bJ a0 a1 a2 a3 a4 true true) λx0=>AI ()
def gV (G:aa)(n:Nat)(a0 a1:Option Addr)(a2:Option Nat)(a3 a4:Option Addr)(a5 a6:Sl)(a7 a8 a9:Int):M (Unit⊕Int):=sh (nn a3) λx0=>sh (av a5 a7 1) λx1=>sh (nn a4) λx2=>sh (av a6 a7 1) λx3=>sh (aq .sl (x0.plus 4)) λ(x4:Sl)=>sh (aq li x1) λ(x5:Int)=>sh (av x4 x5 1) λx6=>sh (aq li x6) λ(x7:Int)=>sh (aq .sl (x2.plus 4)) λ(x8:Sl)=>sh (aq li x3) λ(x9:Int)=>sh (av x8 x9 1) λx10=>sh (aq li x10) λ(x11:Int)=>sh (G.kr a0 x7 a1 x11 a2) λx12=>if !decide (x12=0) then AI (Sum.inr x12) else G.iD a0 a1 a2 a3 a4 a5 a6 a8 (i64.wrap (a9+1))
def qc (G:aa)(n:Nat)(a0 a1:Option Addr)(a2:Option Nat)(a3 a4:Option Addr)(a5 a6:Sl)(a7 a8:Int):M (Unit⊕Int):=if decide (a8<a7) then sh (nn a3) λx0=>sh (aq li (x0.plus 0)) λ(x1:Int)=>if decide (x1=10) then sh (nn a3) λx2=>sh (av a5 a8 1) λx3=>sh (nn a4) λx4=>sh (av a6 a8 1) λx5=>sh (aq .sl (x2.plus 3)) λ(x6:Sl)=>sh (aq li x3) λ(x7:Int)=>sh (av x6 x7 1) λx8=>sh (aq li x8) λ(x9:Int)=>sh (aq .sl (x4.plus 3)) λ(x10:Sl)=>sh (aq li x5) λ(x11:Int)=>sh (av x10 x11 1) λx12=>sh (aq li x12) λ(x13:Int)=>sh (G.kr a0 x9 a1 x13 none) λiK=>if !decide (iK=0) then AI (Sum.inr iK) else gV G n a0 a1 a2 a3 a4 a5 a6 a8 a7 a8 else gV G n a0 a1 a2 a3 a4 a5 a6 a8 a7 a8 else AI (Sum.inl ())
def ua (G:aa)(n:Nat)(a0:Option Addr)(a1:Int)(a2:Option Addr)(a3:Int)(a4:Option Nat):M Int:=sh (nn a0) λx0=>sh (nn a2) λx1=>sh (aq .sl ((x0.plus 0).plus 0)) λ(x2:Sl)=>sh (av x2 a1 5) λx3=>sh (aq .sl ((x1.plus 0).plus 0)) λ(x4:Sl)=>sh (av x4 a3 5) λx5=>sh (nn (some x3)) λx6=>sh (nn (some x5)) λx7=>sh (aq li (x6.plus 0)) λ(x8:Int)=>sh (aq li (x7.plus 0)) λ(x9:Int)=>if decide (x8<x9) then AI (-1) else sh (nn (some x3)) λx10=>sh (nn (some x5)) λx11=>sh (aq li (x10.plus 0)) λ(x12:Int)=>sh (aq li (x11.plus 0)) λ(x13:Int)=>if decide (x13<x12) then AI 1 else sh (nn (some x3)) λiK=>sh (nn (some x5)) λx15=>sh (aq .bool (iK.plus 2)) λ(po:Bool)=>sh (aq .bool (x15.plus 2)) λ(x17:Bool)=>if !po==x17 then sh (nn (some x5)) λqH=>sh (aq .bool (qH.plus 2)) λ(x19:Bool)=>if x19 then AI (-1) else AI 1 else sh (nn (some x3)) λqH=>sh (nn (some x3)) λx19=>sh (nn (some x5)) λx20=>sh (aq li (qH.plus 0)) λ(x21:Int)=>sh (aq .str (x19.plus 1)) λ(x22:ByteArray)=>sh (aq .str (x20.plus 1)) λ(x23:ByteArray)=>sh (ta n x21 x22 x23) λx24=>if !decide (x24=0) then AI x24 else sh (G.dX a0 a1) λx25=>sh (G.dX a2 a3) λx26=>sh (G.iD a0 a2 a4 (some x3) (some x5) x25 x26 (if (↑x26.len:Int)<(↑x25.len:Int) then (↑x26.len:Int) else (↑x25.len:Int)) 0) (cw (λx27=>if decide ((↑x25.len:Int)<(↑x26.len:Int)) then AI (-1) else if decide ((↑x26.len:Int)<(↑x25.len:Int)) then AI 1 else AI 0) (λx27=>AI x27))
def eD (G:aa)(n:Nat)(a0:Sl)(a1 a2:Int)(a3:Value)(a4 a5:Int):M Unit:=sh (av a0 (i64.wrap (a5-1)) 1) λx0=>sh (av a0 a5 1) λx1=>sh (aq li x0) λ(x2:Int)=>sh (aq li x1) λ(x3:Int)=>sh (av a0 a5 1) λx4=>sh (bG x4 [vi x2]) λx5=>sh (av a0 (i64.wrap (a5-1)) 1) λx6=>sh (bG x6 [vi x3]) λx7=>G.bW a0 a1 a2 a3 a4 (i64.wrap (a5-1))
def cr (G:aa)(n:Nat)(a0:Sl)(a1 a2:Int)(a3:Value)(a4 a5:Int):M Unit:=if decide (a1<a5) then sh (av a0 a5 1) λx0=>sh (av a0 (i64.wrap (a5-1)) 1) λx1=>sh (aq li x0) λ(x2:Int)=>sh (aq li x1) λ(x3:Int)=>sh (hZ G n a3 x2 x3) λx4=>if decide (x4<0) then eD G n a0 a1 a2 a3 a4 a5 else AI () else AI ()
def cu (G:aa)(n:Nat)(a0:Sl)(a1 a2:Int)(a3:Value)(a4:Int):M Unit:=if decide (a4<a2) then sh (G.bW a0 a1 a2 a3 a4 a4) λx0=>G.bX a0 a1 a2 a3 (i64.wrap (a4+1)) else AI ()
def fZ (G:aa)(n:Nat)(a0:Sl)(a1 a2:Int)(a3:Value):M Unit:=sh (G.bX a0 a1 a2 a3 (i64.wrap (a1+1))) λx0=>AI ()
def du (G:aa)(n:Nat)(a0:Sl)(a1:Value)(a2 a3 a4 a5:Int):M Unit:=if decide (0<=a5) then sh (G.dF a0 a5 a4 a2 a1) λx0=>G.cM a0 a1 a2 a3 a4 (i64.wrap (a5-1)) else AI ()
def dv (G:aa)(n:Nat)(a0:Sl)(a1:Value)(a2 a3 a4:Int):M Unit:=if decide (0<=a4) then sh (av a0 (i64.wrap (a2+a4)) 1) λx0=>sh (av a0 a2 1) λx1=>sh (aq li x0) λ(x2:Int)=>sh (aq li x1) λ(x3:Int)=>sh (av a0 a2 1) λx4=>sh (bG x4 [vi x2]) λx5=>sh (av a0 (i64.wrap (a2+a4)) 1) λx6=>sh (bG x6 [vi x3]) λx7=>sh (G.dF a0 a3 a4 a2 a1) λx8=>G.cN a0 a1 a2 a3 (i64.wrap (a4-1)) else AI ()
def iB (G:aa)(n:Nat)(a0:Sl)(a1 a2:Int)(a3:Value):M Unit:=sh (kC (decide (2≠0))) λx0=>sh (G.cM a0 a3 a1 0 (i64.wrap (a2-a1)) (i64.wrap ((i64.wrap (i64.wrap (a2-a1)-1)).tdiv 2))) λx1=>sh (G.cN a0 a3 a1 0 (i64.wrap (i64.wrap (a2-a1)-1))) λx2=>AI ()
def bU (G:aa)(n:Nat)(a0:Addr)(a1:Int):M (Int×Int):=sh (aq li a0) λ(x0:Int)=>if decide (x0=0) then AI (a1,1) else if decide (x0=12) then AI (a1,2) else AI (a1,0)
def gG (G:aa)(n:Nat)(a0:Sl)(a1 a2:Int)(a3:Value):M (Int×Int):=sh (aO none au [vi 0]) λx0=>sh (kC (decide (4≠0))) λx1=>sh (kC (decide (4≠0))) λx2=>sh (kC (decide (4≠0))) λx3=>if decide (8<=i64.wrap (a2-a1)) then if decide (50<=i64.wrap (a2-a1)) then sh (G.cp a0 (i64.wrap (a1+i64.wrap (i64.wrap ((i64.wrap (a2-a1)).tdiv 4)*1))) (some (ak x0)) a3) λx4=>sh (G.cp a0 (i64.wrap (a1+i64.wrap (i64.wrap ((i64.wrap (a2-a1)).tdiv 4)*2))) (some (ak x0)) a3) λx5=>sh (G.cp a0 (i64.wrap (a1+i64.wrap (i64.wrap ((i64.wrap (a2-a1)).tdiv 4)*3))) (some (ak x0)) a3) λx6=>sh (G.dn a0 x4 x5 x6 (some (ak x0)) a3) λx7=>bU G n (ak x0) x7 else sh (G.dn a0 (i64.wrap (a1+i64.wrap (i64.wrap ((i64.wrap (a2-a1)).tdiv 4)*1))) (i64.wrap (a1+i64.wrap (i64.wrap ((i64.wrap (a2-a1)).tdiv 4)*2))) (i64.wrap (a1+i64.wrap (i64.wrap ((i64.wrap (a2-a1)).tdiv 4)*3))) (some (ak x0)) a3) λx4=>bU G n (ak x0) x4 else bU G n (ak x0) (i64.wrap (a1+i64.wrap (i64.wrap ((i64.wrap (a2-a1)).tdiv 4)*2)))
def lH (G:aa)(n:Nat)(a0:Sl)(a1 a2:Int)(a3:Value)(a4 a5 a6:Int):M Unit:=if decide (1<=a6) then sh (av a0 a6 1) λx0=>sh (av a0 (i64.wrap (a6-1)) 1) λx1=>sh (aq li x0) λ(x2:Int)=>sh (aq li x1) λ(x3:Int)=>sh (fU G n a3 x2 x3) λx4=>if !decide (x4<0) then AI () else sh (av a0 (i64.wrap (a6-1)) 1) λx5=>sh (av a0 a6 1) λx6=>sh (aq li x5) λ(x7:Int)=>sh (aq li x6) λ(x8:Int)=>sh (av a0 a6 1) λx9=>sh (bG x9 [vi x7]) λx10=>sh (av a0 (i64.wrap (a6-1)) 1) λx11=>sh (bG x11 [vi x8]) λx12=>G.bK a0 a1 a2 a3 a4 a5 (i64.wrap (a6-1)) else AI ()
def lI (G:aa)(n:Nat)(a0:Sl)(a1 a2:Int)(a3:Value)(a4 a5 a6:Int):M Unit:=if decide (a6<a2) then sh (av a0 a6 1) λx0=>sh (av a0 (i64.wrap (a6-1)) 1) λx1=>sh (aq li x0) λ(x2:Int)=>sh (aq li x1) λ(x3:Int)=>sh (fL G n a3 x2 x3) λx4=>if !decide (x4<0) then AI () else sh (av a0 (i64.wrap (a6-1)) 1) λx5=>sh (av a0 a6 1) λx6=>sh (aq li x5) λ(x7:Int)=>sh (aq li x6) λ(x8:Int)=>sh (av a0 a6 1) λx9=>sh (bG x9 [vi x7]) λx10=>sh (av a0 (i64.wrap (a6-1)) 1) λx11=>sh (bG x11 [vi x8]) λx12=>G.bL a0 a1 a2 a3 a4 a5 (i64.wrap (a6+1)) else AI ()
def bF (G:aa)(n:Nat)(a0:Sl)(a1 a2:Int)(a3:Value)(a4 a5:Int):M Int:=if decide (a4<a2) then sh (av a0 a4 1) λx0=>sh (av a0 (i64.wrap (a4-1)) 1) λx1=>sh (aq li x0) λ(x2:Int)=>sh (aq li x1) λ(x3:Int)=>sh (fT G n a3 x2 x3) λx4=>if !decide (x4<0) then G.bt a0 a1 a2 a3 (i64.wrap (a4+1)) a5 else AI a4 else AI a4
def dm (G:aa)(n:Nat)(a0:Sl)(a1 a2:Int)(a3:Value)(a4 a5:Int):M (Unit⊕Bool):=if decide (2<=i64.wrap (a2-a4)) then sh (G.bL a0 a1 a2 a3 a4 a5 (i64.wrap (a4+1))) λx0=>G.bu a0 a1 a2 a3 a4 (i64.wrap (a5+1)) else G.bu a0 a1 a2 a3 a4 (i64.wrap (a5+1))
def dH (G:aa)(n:Nat)(a0:Sl)(a1 a2:Int)(a3:Value)(a4 a5:Int):M (Unit⊕Bool):=if decide (a5<5) then sh (G.bt a0 a1 a2 a3 a4 a5) λx0=>if decide (x0=a2) then AI (Sum.inr true) else if decide (i64.wrap (a2-a1)<50) then AI (Sum.inr false) else sh (av a0 (i64.wrap (x0-1)) 1) λx1=>sh (av a0 x0 1) λx2=>sh (aq li x1) λ(x3:Int)=>sh (aq li x2) λ(x4:Int)=>sh (av a0 x0 1) λx5=>sh (bG x5 [vi x3]) λx6=>sh (av a0 (i64.wrap (x0-1)) 1) λx7=>sh (bG x7 [vi x4]) λx8=>if decide (2<=i64.wrap (x0-a1)) then sh (G.bK a0 a1 a2 a3 x0 a5 (i64.wrap (x0-1))) λx9=>dm G n a0 a1 a2 a3 x0 a5 else dm G n a0 a1 a2 a3 x0 a5 else AI (Sum.inl ())
def eg (G:aa)(n:Nat)(a0:Sl)(a1 a2:Int)(a3:Value):M Bool:=sh (G.bu a0 a1 a2 a3 (i64.wrap (a1+1)) 0) (cw (λx0=>AI false) (λx0=>AI x0))
def cd (G:aa)(n:Nat)(a0:Sl)(a1:Int)(a2:Value)(a3 a4:Int):M Int:=if decide (a3<=a4) then sh (av a0 a1 1) λx0=>sh (av a0 a4 1) λx1=>sh (aq li x0) λ(x2:Int)=>sh (aq li x1) λ(x3:Int)=>sh (gU G n a2 x2 x3) λx4=>if decide (x4<0) then G.bO a0 a1 a2 a3 (i64.wrap (a4-1)) else AI a4 else AI a4
def cm (G:aa)(n:Nat)(a0:Sl)(a1:Int)(a2:Value)(a3 a4:Int):M Int:=if decide (a3<=a4) then sh (av a0 a1 1) λx0=>sh (av a0 a3 1) λx1=>sh (aq li x0) λ(x2:Int)=>sh (aq li x1) λ(x3:Int)=>sh (gT G n a2 x2 x3) λx4=>if !decide (x4<0) then G.bP a0 a1 a2 (i64.wrap (a3+1)) a4 else AI a3 else AI a3
def cn (G:aa)(n:Nat)(a0:Sl)(a1:Int)(a2:Value)(a3 a4:Int):M Int:=sh (G.bP a0 a1 a2 a3 a4) λx0=>sh (G.bO a0 a1 a2 x0 a4) λx1=>if decide (x1<x0) then AI x0 else sh (av a0 x1 1) λx2=>sh (av a0 x0 1) λx3=>sh (aq li x2) λ(x4:Int)=>sh (aq li x3) λ(x5:Int)=>sh (av a0 x0 1) λx6=>sh (bG x6 [vi x4]) λx7=>sh (av a0 x1 1) λx8=>sh (bG x8 [vi x5]) λx9=>G.bQ a0 a1 a2 (i64.wrap (x0+1)) (i64.wrap (x1-1))
def fP (G:aa)(n:Nat)(a0:Sl)(a1 a2 a3:Int)(a4:Value):M Int:=sh (av a0 a3 1) λx0=>sh (av a0 a1 1) λx1=>sh (aq li x0) λ(x2:Int)=>sh (aq li x1) λ(x3:Int)=>sh (av a0 a1 1) λx4=>sh (bG x4 [vi x2]) λx5=>sh (av a0 a3 1) λx6=>sh (bG x6 [vi x3]) λx7=>sh (G.bQ a0 a1 a4 (i64.wrap (a1+1)) (i64.wrap (a2-1))) λx8=>AI x8
def da (G:aa)(n:Nat)(a0:Sl)(a1:Int)(a2:Value)(a3 a4:Int):M Int:=if decide (a3<=a4) then sh (av a0 a4 1) λx0=>sh (av a0 a1 1) λx1=>sh (aq li x0) λ(x2:Int)=>sh (aq li x1) λ(x3:Int)=>sh (jn G n a2 x2 x3) λx4=>if !decide (x4<0) then G.cD a0 a1 a2 a3 (i64.wrap (a4-1)) else AI a4 else AI a4
def db (G:aa)(n:Nat)(a0:Sl)(a1:Int)(a2:Value)(a3 a4:Int):M Int:=if decide (a3<=a4) then sh (av a0 a3 1) λx0=>sh (av a0 a1 1) λx1=>sh (aq li x0) λ(x2:Int)=>sh (aq li x1) λ(x3:Int)=>sh (jm G n a2 x2 x3) λx4=>if decide (x4<0) then G.cF a0 a1 a2 (i64.wrap (a3+1)) a4 else AI a3 else AI a3
def de (G:aa)(n:Nat)(a0:Sl)(a1:Int)(a2:Value)(a3 a4:Int):M Int:=sh (G.cF a0 a1 a2 a3 a4) λx0=>sh (G.cD a0 a1 a2 x0 a4) λx1=>if decide (x1<x0) then AI x1 else sh (av a0 x1 1) λx2=>sh (av a0 x0 1) λx3=>sh (aq li x2) λ(x4:Int)=>sh (aq li x3) λ(x5:Int)=>sh (av a0 x0 1) λx6=>sh (bG x6 [vi x4]) λx7=>sh (av a0 x1 1) λx8=>sh (bG x8 [vi x5]) λx9=>G.cG a0 a1 a2 (i64.wrap (x0+1)) (i64.wrap (x1-1))
def df (G:aa)(n:Nat)(a0:Sl)(a1:Int)(a2:Value)(a3 a4:Int):M Int:=if decide (a3<=a4) then sh (av a0 a4 1) λx0=>sh (av a0 a1 1) λx1=>sh (aq li x0) λ(x2:Int)=>sh (aq li x1) λ(x3:Int)=>sh (jB G n a2 x2 x3) λx4=>if !decide (x4<0) then G.cH a0 a1 a2 a3 (i64.wrap (a4-1)) else AI a4 else AI a4
def dh (G:aa)(n:Nat)(a0:Sl)(a1:Int)(a2:Value)(a3 a4:Int):M Int:=if decide (a3<=a4) then sh (av a0 a3 1) λx0=>sh (av a0 a1 1) λx1=>sh (aq li x0) λ(x2:Int)=>sh (aq li x1) λ(x3:Int)=>sh (jA G n a2 x2 x3) λx4=>if decide (x4<0) then G.cI a0 a1 a2 (i64.wrap (a3+1)) a4 else AI a3 else AI a3
def gW (G:aa)(n:Nat)(a0:Sl)(a1 a2 a3:Int)(a4:Value):M (Int×Bool):=sh (av a0 a3 1) λx0=>sh (av a0 a1 1) λx1=>sh (aq li x0) λ(x2:Int)=>sh (aq li x1) λ(x3:Int)=>sh (av a0 a1 1) λx4=>sh (bG x4 [vi x2]) λx5=>sh (av a0 a3 1) λx6=>sh (bG x6 [vi x3]) λx7=>sh (G.cI a0 a1 a4 (i64.wrap (a1+1)) (i64.wrap (a2-1))) λx8=>sh (G.cH a0 a1 a4 x8 (i64.wrap (a2-1))) λx9=>if decide (x9<x8) then sh (av a0 a1 1) λx10=>sh (av a0 x9 1) λx11=>sh (aq li x10) λ(x12:Int)=>sh (aq li x11) λ(x13:Int)=>sh (av a0 x9 1) λiK=>sh (bG iK [vi x12]) λx15=>sh (av a0 a1 1) λpo=>sh (bG po [vi x13]) λx17=>AI (x9,true) else sh (av a0 x9 1) λx10=>sh (av a0 x8 1) λx11=>sh (aq li x10) λ(x12:Int)=>sh (aq li x11) λ(x13:Int)=>sh (av a0 x8 1) λiK=>sh (bG iK [vi x12]) λx15=>sh (av a0 x9 1) λpo=>sh (bG po [vi x13]) λx17=>sh (G.cG a0 a1 a4 (i64.wrap (x8+1)) (i64.wrap (x9-1))) λqH=>sh (av a0 a1 1) λx19=>sh (av a0 qH 1) λx20=>sh (aq li x19) λ(x21:Int)=>sh (aq li x20) λ(x22:Int)=>sh (av a0 qH 1) λx23=>sh (bG x23 [vi x21]) λx24=>sh (av a0 a1 1) λx25=>sh (bG x25 [vi x22]) λx26=>AI (qH,false)
def bV (G:aa)(n:Nat)(a0:Sl)(a1 a2:Int)(a3:Value)(a4 a5:Int):M (Unit⊕Unit):=sh (av a0 (i64.wrap (a2+a4)) 1) λx0=>sh (av a0 (i64.wrap (a2+a5)) 1) λx1=>sh (aq li x0) λ(x2:Int)=>sh (aq li x1) λ(x3:Int)=>sh (j8 G n a3 x2 x3) λx4=>if !decide (x4<0) then AI (Sum.inr ()) else sh (av a0 (i64.wrap (a2+a5)) 1) λx5=>sh (av a0 (i64.wrap (a2+a4)) 1) λx6=>sh (aq li x5) λ(x7:Int)=>sh (aq li x6) λ(x8:Int)=>sh (av a0 (i64.wrap (a2+a4)) 1) λx9=>sh (bG x9 [vi x7]) λx10=>sh (av a0 (i64.wrap (a2+a5)) 1) λx11=>sh (bG x11 [vi x8]) λx12=>G.cO a0 a1 a2 a3 a5
def dw (G:aa)(n:Nat)(a0:Sl)(a1 a2:Int)(a3:Value)(a4:Int):M (Unit⊕Unit):=if decide (a1<=i64.wrap (i64.wrap (2*a4)+1)) then AI (Sum.inl ()) else if decide (i64.wrap (i64.wrap (i64.wrap (2*a4)+1)+1)<a1) then sh (av a0 (i64.wrap (a2+i64.wrap (i64.wrap (2*a4)+1))) 1) λx0=>sh (av a0 (i64.wrap (i64.wrap (a2+i64.wrap (i64.wrap (2*a4)+1))+1)) 1) λx1=>sh (aq li x0) λ(x2:Int)=>sh (aq li x1) λ(x3:Int)=>sh (j7 G n a3 x2 x3) λx4=>if decide (x4<0) then bV G n a0 a1 a2 a3 a4 (i64.wrap (i64.wrap (i64.wrap (2*a4)+1)+1)) else bV G n a0 a1 a2 a3 a4 (i64.wrap (i64.wrap (2*a4)+1)) else bV G n a0 a1 a2 a3 a4 (i64.wrap (i64.wrap (2*a4)+1))
def iC (G:aa)(n:Nat)(a0:Sl)(a1 a2 a3:Int)(a4:Value):M Unit:=sh (G.cO a0 a2 a3 a4 a1) (cw (λx0=>AI ()) (λx0=>AI ()))
def pc (G:aa)(n:Nat)(a0:Sl)(a1:Int)(a2:Option Addr)(a3:Value):M Int:=sh (G.dn a0 (i64.wrap (a1-1)) a1 (i64.wrap (a1+1)) a2 a3) λx0=>AI x0
def jo (G:aa)(n:Nat)(a0:Sl)(a1 a2 a3:Int)(a4:Option Addr)(a5:Value):M Int:=sh (G.dp a0 a1 a2 a4 a5) λx0=>sh (G.dp a0 x0.2 a3 a4 a5) λx1=>sh (G.dp a0 x0.1 x1.1 a4 a5) λx2=>AI x2.2
def jq (G:aa)(n:Nat)(a0:Sl)(a1 a2:Int)(a3:Option Addr)(a4:Value):M (Int×Int):=sh (av a0 a2 1) λx0=>sh (av a0 a1 1) λx1=>sh (aq li x0) λ(x2:Int)=>sh (aq li x1) λ(x3:Int)=>sh (lr G n a4 x2 x3) λx4=>if decide (x4<0) then sh (nn a3) λx5=>sh (aq li x5) λ(x6:Int)=>sh (nn a3) λx7=>sh (bG x7 [vi (i64.wrap (x6+1))]) λx8=>AI (a2,a1) else AI (a1,a2)
def aa.at:Nat->aa|0=>⟨λ_ _ _ _ _ _=>AS,λ_ _=>AS,λ_ _=>AS,λ_ _ _ _=>AS,λ_ _ _ _ _=>AS,λ_ _ _ _ _ _ _=>AS,λ_ _ _ _ _=>AS,λ_ _ _ _ _ _ _ _ _=>AS,λ_ _ _ _ _=>AS,λ_ _ _ _ _ _=>AS,λ_ _ _ _ _=>AS,λ_ _ _ _=>AS,λ_ _ _ _ _ _=>AS,λ_ _ _ _ _=>AS,λ_ _ _ _=>AS,λ_ _ _ _=>AS,λ_ _ _ _ _ _ _=>AS,λ_ _ _ _ _ _ _=>AS,λ_ _ _ _ _ _=>AS,λ_ _ _ _ _ _=>AS,λ_ _ _ _=>AS,λ_ _ _ _ _=>AS,λ_ _ _ _ _=>AS,λ_ _ _ _ _=>AS,λ_ _ _ _ _=>AS,λ_ _ _ _ _=>AS,λ_ _ _ _ _=>AS,λ_ _ _ _ _=>AS,λ_ _ _ _ _=>AS,λ_ _ _ _ _=>AS,λ_ _ _ _ _=>AS,λ_ _ _ _ _=>AS,λ_ _ _ _ _=>AS,λ_ _ _ _=>AS,λ_ _ _ _ _ _=>AS,λ_ _ _ _ _=>AS⟩|n+1=>⟨kp (aa.at n) n,mP (aa.at n) n,jF (aa.at n) n,lu (aa.at n) n,sG (aa.at n) n,dD (aa.at n) n,ez (aa.at n) n,qc (aa.at n) n,ua (aa.at n) n,cr (aa.at n) n,cu (aa.at n) n,fZ (aa.at n) n,du (aa.at n) n,dv (aa.at n) n,iB (aa.at n) n,gG (aa.at n) n,lH (aa.at n) n,lI (aa.at n) n,bF (aa.at n) n,dH (aa.at n) n,eg (aa.at n) n,cd (aa.at n) n,cm (aa.at n) n,cn (aa.at n) n,fP (aa.at n) n,da (aa.at n) n,db (aa.at n) n,de (aa.at n) n,df (aa.at n) n,dh (aa.at n) n,gW (aa.at n) n,dw (aa.at n) n,iC (aa.at n) n,pc (aa.at n) n,jo (aa.at n) n,jq (aa.at n) n⟩
def eW (n:Nat):=(aa.at n).eW
def dX (n:Nat):=(aa.at n).dX
def dE (n:Nat):=(aa.at n).dE
def aN (n:Nat):=(aa.at n).aN
def kr (n:Nat):=(aa.at n).kr
def bJ (n:Nat):=(aa.at n).bJ
def cV (n:Nat):=(aa.at n).cV
def iD (n:Nat):=(aa.at n).iD
def qd (n:Nat):=(aa.at n).qd
def bW (n:Nat):=(aa.at n).bW
def bX (n:Nat):=(aa.at n).bX
def dz (n:Nat):=(aa.at n).dz
def cM (n:Nat):=(aa.at n).cM
def cN (n:Nat):=(aa.at n).cN
def eL (n:Nat):=(aa.at n).eL
def dJ (n:Nat):=(aa.at n).dJ
def bK (n:Nat):=(aa.at n).bK
def bL (n:Nat):=(aa.at n).bL
def bt (n:Nat):=(aa.at n).bt
def bu (n:Nat):=(aa.at n).bu
def b7 (n:Nat):=(aa.at n).b7
def bO (n:Nat):=(aa.at n).bO
def bP (n:Nat):=(aa.at n).bP
def bQ (n:Nat):=(aa.at n).bQ
def di (n:Nat):=(aa.at n).di
def cD (n:Nat):=(aa.at n).cD
def cF (n:Nat):=(aa.at n).cF
def cG (n:Nat):=(aa.at n).cG
def cH (n:Nat):=(aa.at n).cH
def cI (n:Nat):=(aa.at n).cI
def eA (n:Nat):=(aa.at n).eA
def cO (n:Nat):=(aa.at n).cO
def dF (n:Nat):=(aa.at n).dF
def cp (n:Nat):=(aa.at n).cp
def dn (n:Nat):=(aa.at n).dn
def dp (n:Nat):=(aa.at n).dp
def rZ (n:Nat):=az (aa.at n) n
def oH (n:Nat):=hZ (aa.at n) n
def ma (n:Nat):=fT (aa.at n) n
def mc (n:Nat):=fU (aa.at n) n
def lJ (n:Nat):=fL (aa.at n) n
def om (n:Nat):=gT (aa.at n) n
def oo (n:Nat):=gU (aa.at n) n
def qz (n:Nat):=jA (aa.at n) n
def qA (n:Nat):=jB (aa.at n) n
def qe (n:Nat):=jm (aa.at n) n
def qf (n:Nat):=jn (aa.at n) n
def rj (n:Nat):=j7 (aa.at n) n
def rk (n:Nat):=j8 (aa.at n) n
def sH (n:Nat):=lr (aa.at n) n
def wv (n:Nat):=kq (aa.at n) n
def qB (n:Nat):=cT (aa.at n) n
def qC (n:Nat):=cS (aa.at n) n
def qD (n:Nat):=bD (aa.at n) n
def qE (n:Nat):=cR (aa.at n) n
def zY (n:Nat):=gV (aa.at n) n
def n0 (n:Nat):=eD (aa.at n) n
def qg (n:Nat):=bU (aa.at n) n
def lz (n:Nat):=dm (aa.at n) n
def qh (n:Nat):=bV (aa.at n) n
abbrev UX (n:Nat):bz:=⟨48,[tA,aB],[cJ],λx=>dX n x.1 x.2⟩
abbrev IW:L1:=⟨[0,1,0,1,1,1,1],[(1,aB),(2,aK),(5,aK),(6,cJ),(37,aB),(38,aB)],[],[7]++List.range' 38 8,0,λn x=>eW n x.1 x.2.1 x.2.2.1 x.2.2.2.1 x.2.2.2.2.1 x.2.2.2.2.2⟩
abbrev UY (n:Nat):bz:=⟨74,[cJ,rW],[],λx=>dE n x.1 x.2⟩
abbrev UZ (n:Nat):bz:=⟨75,[aB,aB,aK,aK],[aB],λx=>aN n x.1 x.2.1 x.2.2.1 x.2.2.2⟩
abbrev U0 (n:Nat):bz:=⟨76,[tA,aB,tA,aB,tyM],[aB],λx=>kr n x.1 x.2.1 x.2.2.1 x.2.2.2.1 x.2.2.2.2⟩
abbrev Nf (n:Nat):bz:=⟨104,[cJ,aB,aB,aB,rW],[],λx=>cV n x.1 x.2.1 x.2.2.1 x.2.2.2.1 x.2.2.2.2⟩
abbrev Dv:Lr:=⟨[0,1,1],[(0,cJ),(1,aB),(2,aB),(3,aB),(4,rW),(10,jz),(11,jz)],[],[1,2,3]++List.range' 10 138,λn x=>bJ n x.1 x.2.1 x.2.2.1 x.2.2.2.1 x.2.2.2.2.1 x.2.2.2.2.2.1 x.2.2.2.2.2.2⟩
abbrev Ng (n:Nat):bz:=⟨106,[tA,aB,tA,aB,tyM],[aB],λx=>qd n x.1 x.2.1 x.2.2.1 x.2.2.2.1 x.2.2.2.2⟩
abbrev Dw:L2:=⟨[0,1,0,1,1,1,1,1],[(0,tA),(2,tA),(4,tyM),(11,tA),(12,tA),(14,cJ),(15,cJ),(93,aB),(94,aB)],[],[(10,aB)],[10,16,17,18]++List.range' 94 62,1,.ret,λn x=>iD n x.1 x.2.1 x.2.2.1 x.2.2.2.1 x.2.2.2.2.1 x.2.2.2.2.2.1 x.2.2.2.2.2.2.1 x.2.2.2.2.2.2.2.1 x.2.2.2.2.2.2.2.2⟩
abbrev Nh (n:Nat):bz:=⟨136,[cJ,aB,aB,rW],[],λx=>dz n x.1 x.2.1 x.2.2.1 x.2.2.2⟩
abbrev Dx:L1:=⟨[0,1],[(0,cJ),(1,aB),(2,aB),(3,rW),(8,aB)],[],[8,9]++List.range' 12 41,0,λn x=>bX n x.1 x.2.1 x.2.2.1 x.2.2.2.1 x.2.2.2.2⟩
abbrev Dy:L1:=⟨[0,1,0,0,1,0,0,1],[(0,cJ),(1,aB),(2,aB),(3,rW),(8,aB),(9,aB)],[],[9]++List.range' 18 35,2,λn x=>bW n x.1 x.2.1 x.2.2.1 x.2.2.2.1 x.2.2.2.2.1 x.2.2.2.2.2⟩
abbrev Ni (n:Nat):bz:=⟨137,[cJ,aB,aB,rW],[],λx=>eL n x.1 x.2.1 x.2.2.1 x.2.2.2⟩
abbrev Dz:L1:=⟨[0,1,0,1,1,1],[(0,cJ),(3,rW),(8,aB),(9,aB),(10,aB),(11,aB)],[],[11]++List.range' 20 10,0,λn x=>cM n x.1 x.2.1 x.2.2.1 x.2.2.2.1 x.2.2.2.2.1 x.2.2.2.2.2⟩
abbrev DA:L1:=⟨[0,1,1,1,1,1],[(0,cJ),(3,rW),(8,aB),(9,aB),(12,aB)],[],[12]++List.range' 32 28,2,λn x=>cN n x.1 x.2.1 x.2.2.1 x.2.2.2.1 x.2.2.2.2⟩
abbrev Nj (n:Nat):bz:=⟨139,[cJ,aB,aB,rW],[aB,aB],λx=>dJ n x.1 x.2.1 x.2.2.1 x.2.2.2⟩
abbrev Nk (n:Nat):bz:=⟨141,[cJ,aB,aB,rW],[jz],λx=>b7 n x.1 x.2.1 x.2.2.1 x.2.2.2⟩
abbrev DB:L2:=⟨[0,1,0,1,1],[(0,cJ),(1,aB),(2,aB),(3,rW),(9,aB),(10,aB)],[],[(8,jz)],List.range' 8 5++List.range' 15 126,0,.ret,λn x=>bu n x.1 x.2.1 x.2.2.1 x.2.2.2.1 x.2.2.2.2.1 x.2.2.2.2.2⟩
abbrev DC:L1:=⟨[0,0,0,0,1,0,0,1,0,1,1],[(0,cJ),(1,aB),(2,aB),(3,rW),(9,aB),(10,aB)],[(9,aB)],[9]++List.range' 19 20,2,λn x=>bt n x.1 x.2.1 x.2.2.1 x.2.2.2.1 x.2.2.2.2.1 x.2.2.2.2.2⟩
abbrev DE:L1:=⟨[0,1,0,1,0,1,1,1,1,0,0,1,0,0,1,0,1,1],[(0,cJ),(1,aB),(2,aB),(3,rW),(9,aB),(10,aB),(11,aB)],[],[11]++List.range' 68 33,4,λn x=>bK n x.1 x.2.1 x.2.2.1 x.2.2.2.1 x.2.2.2.2.1 x.2.2.2.2.2.1 x.2.2.2.2.2.2⟩
abbrev DF:L1:=⟨[0,1,0,1,1,1,1,1,1,0,0,1,0,0,1,0,1,1],[(0,cJ),(1,aB),(2,aB),(3,rW),(9,aB),(10,aB),(12,aB)],[],[12]++List.range' 107 34,6,λn x=>bL n x.1 x.2.1 x.2.2.1 x.2.2.2.1 x.2.2.2.2.1 x.2.2.2.2.2.1 x.2.2.2.2.2.2⟩
abbrev Nl (n:Nat):bz:=⟨142,[cJ,aB,aB,aB,rW],[aB],λx=>di n x.1 x.2.1 x.2.2.1 x.2.2.2.1 x.2.2.2.2⟩
abbrev DG:L1:=⟨[0,0,1,1,1],[(0,cJ),(1,aB),(4,rW),(11,aB),(12,aB)],[(11,aB)],[11,12]++List.range' 31 58,0,λn x=>bQ n x.1 x.2.1 x.2.2.1 x.2.2.2.1 x.2.2.2.2⟩
abbrev DH:L1:=⟨[0,0,0,0,0,0,1,1,1],[(0,cJ),(1,aB),(4,rW),(11,aB),(12,aB)],[(11,aB)],[11]++List.range' 31 19,2,λn x=>bP n x.1 x.2.1 x.2.2.1 x.2.2.2.1 x.2.2.2.2⟩
abbrev DI:L1:=⟨[0,0,1,0,0,0,0,1,1,1],[(0,cJ),(1,aB),(4,rW),(11,aB),(12,aB)],[(12,aB)],[12]++List.range' 50 18,4,λn x=>bO n x.1 x.2.1 x.2.2.1 x.2.2.2.1 x.2.2.2.2⟩
abbrev Nn (n:Nat):bz:=⟨143,[cJ,aB,aB,aB,rW],[aB,jz],λx=>eA n x.1 x.2.1 x.2.2.1 x.2.2.2.1 x.2.2.2.2⟩
abbrev DJ:L1:=⟨[0,0,1,1,1],[(0,cJ),(1,aB),(4,rW),(12,aB),(13,aB)],[(12,aB)],[12]++List.range' 32 18,0,λn x=>cI n x.1 x.2.1 x.2.2.1 x.2.2.2.1 x.2.2.2.2⟩
abbrev DK:L1:=⟨[0,0,1,1,1,1],[(0,cJ),(1,aB),(4,rW),(12,aB),(13,aB)],[(13,aB)],[13]++List.range' 50 19,2,λn x=>cH n x.1 x.2.1 x.2.2.1 x.2.2.2.1 x.2.2.2.2⟩
abbrev DN:L1:=⟨[0,0,1,1,1,1,1,1,1,1,1],[(0,cJ),(1,aB),(4,rW),(12,aB),(13,aB)],[(13,aB)],[12,13]++List.range' 105 58,4,λn x=>cG n x.1 x.2.1 x.2.2.1 x.2.2.2.1 x.2.2.2.2⟩
abbrev DO:L1:=⟨[0,0,0,0,0,0,1,1,1,1,1,1,1,1,1],[(0,cJ),(1,aB),(4,rW),(12,aB),(13,aB)],[(12,aB)],[12]++List.range' 105 18,6,λn x=>cF n x.1 x.2.1 x.2.2.1 x.2.2.2.1 x.2.2.2.2⟩
abbrev DP:L1:=⟨[0,0,1,0,0,0,0,1,1,1,1,1,1,1,1,1],[(0,cJ),(1,aB),(4,rW),(12,aB),(13,aB)],[(13,aB)],[13]++List.range' 123 19,8,λn x=>cD n x.1 x.2.1 x.2.2.1 x.2.2.2.1 x.2.2.2.2⟩
abbrev Np (n:Nat):bz:=⟨165,[cJ,aB,aB,aB,rW],[],λx=>dF n x.1 x.2.1 x.2.2.1 x.2.2.2.1 x.2.2.2.2⟩
abbrev DQ:L2:=⟨[0,1],[(0,cJ),(2,aB),(3,aB),(4,rW),(10,aB)],[],[],[10,11]++List.range' 13 69,0,.ret,λn x=>cO n x.1 x.2.1 x.2.2.1 x.2.2.2.1 x.2.2.2.2⟩
abbrev Nq (n:Nat):bz:=⟨168,[cJ,aB,tA,rW],[aB],λx=>cp n x.1 x.2.1 x.2.2.1 x.2.2.2⟩
abbrev Nr (n:Nat):bz:=⟨169,[cJ,aB,aB,aB,tA,rW],[aB],λx=>dn n x.1 x.2.1 x.2.2.1 x.2.2.2.1 x.2.2.2.2.1 x.2.2.2.2.2⟩
abbrev Ns (n:Nat):bz:=⟨185,[cJ,aB,aB,tA,rW],[aB,aB],λx=>dp n x.1 x.2.1 x.2.2.1 x.2.2.2.1 x.2.2.2.2⟩
abbrev wx (n:Nat):List bz:=UX n::UY n::UZ n::U0 n::Nf n::Ng n::Nh n::Ni n::Nj n::Nk n::Nl n::Nn n::Np n::Nq n::Nr n::Ns n::C77 n
abbrev abS (n:Nat):List (gj Sl):=[⟨[0,1,0,1,1,1,1,1],[.code [1,1,1,1,1,1]],[(1,aB),(2,aK),(5,aK),(6,cJ)],λx=>wv n x.1 x.2.1 x.2.2.1 x.2.2.2⟩]
def abT (i:Nat):Option (List (Nat×List Nat)):=cond (Nat.beq i 1) (some [(5,[]),(13,[]),(0,[]),(1,[]),(2,[]),(3,[]),(4,[]),(6,[]),(7,[]),(8,[]),(9,[]),(10,[]),(11,[]),(12,[]),(14,[]),(15,[]),(16,[]),(17,[])]) (none)
abbrev IX (n:Nat):List jx:=[⟨84,[aB,aB],[aB],λx a=>rZ n x a.1 a.2⟩]
def Pw (i:Nat):Option (List (Nat×List Nat)):=cond (Nat.beq i 17) (some [(0,[]),(1,[]),(2,[]),(3,[]),(4,[]),(5,[]),(6,[]),(7,[]),(9,[]),(10,[]),(11,[]),(8,[]),(12,[]),(13,[]),(14,[]),(15,[]),(16,[])]) (none)
abbrev Nt (n:Nat):List (gj Unit):=[⟨[0,1,1,1,1,0,0,0,1,1],[.code [1,1,1,1,1,0,0,0,1,1],.ar 1],[(0,cJ),(1,aB),(2,aB),(3,aB),(4,rW),(10,jz),(11,jz),(12,aB)],λx=>qB n x.1 x.2.1 x.2.2.1 x.2.2.2.1 x.2.2.2.2.1 x.2.2.2.2.2.1 x.2.2.2.2.2.2.1 x.2.2.2.2.2.2.2⟩, ⟨[0,0,1,1,1,1,1,1,0,0,0,1,1],[.code [1,0,1,1,1,1,1,1,0,0,0,1,1],.code [1,1,1,1,1,1,1,0,0,0,1,1],.ar 1],[(0,cJ),(1,aB),(2,aB),(3,aB),(4,rW),(10,jz),(11,jz),(12,aB),(13,aB),(14,aB)],λx=>qC n x.1 x.2.1 x.2.2.1 x.2.2.2.1 x.2.2.2.2.1 x.2.2.2.2.2.1 x.2.2.2.2.2.2.1 x.2.2.2.2.2.2.2.1 x.2.2.2.2.2.2.2.2.1 x.2.2.2.2.2.2.2.2.2⟩, ⟨[0,0,1,1,1,1,1,1,1,0,0,0,1,1],[.code [1,0,1,1,1,1,1,1,1,0,0,0,1,1],.code [1,1,1,1,1,1,1,1,0,0,0,1,1],.ar 1],[(0,cJ),(1,aB),(2,aB),(3,aB),(4,rW),(10,jz),(11,jz),(12,aB),(13,aB)],λx=>qD n x.1 x.2.1 x.2.2.1 x.2.2.2.1 x.2.2.2.2.1 x.2.2.2.2.2.1 x.2.2.2.2.2.2.1 x.2.2.2.2.2.2.2.1 x.2.2.2.2.2.2.2.2⟩, ⟨[0,1,1,1,1,1,1,1,1,0,0,0,1,1],[.code [1,1,1,1,1,1,1,1,1,0,0,0,1,1],.ar 1],[(0,cJ),(1,aB),(2,aB),(3,aB),(4,rW),(10,jz),(11,jz),(12,aB),(13,aB)],λx=>qE n x.1 x.2.1 x.2.2.1 x.2.2.2.1 x.2.2.2.2.1 x.2.2.2.2.2.1 x.2.2.2.2.2.2.1 x.2.2.2.2.2.2.2.1 x.2.2.2.2.2.2.2.2⟩]
def Px (i:Nat):Option (List (Nat×List Nat)):=cond (Nat.beq i 1) (some [(0,[]),(1,[]),(2,[]),(3,[]),(5,[]),(7,[]),(8,[]),(9,[]),(10,[]),(12,[]),(4,[]),(6,[]),(14,[]),(11,[]),(13,[]),(15,[])]) (cond (Nat.beq i 2) (some [(0,[]),(1,[]),(2,[]),(4,[]),(5,[]),(6,[]),(3,[]),(7,[]),(8,[]),(9,[])]) (cond (Nat.beq i 4) (some [(0,[]),(1,[]),(2,[]),(4,[]),(5,[]),(6,[]),(3,[]),(7,[]),(8,[]),(9,[])]) (cond (Nat.beq i 6) (some [(0,[]),(1,[]),(2,[]),(4,[]),(5,[]),(6,[]),(3,[]),(7,[]),(8,[]),(9,[])]) (cond (Nat.beq i 10) (some [(0,[]),(1,[]),(2,[]),(4,[]),(5,[]),(6,[]),(8,[]),(9,[]),(10,[]),(3,[]),(7,[]),(11,[]),(12,[]),(13,[])]) (cond (Nat.beq i 18) (some [(0,[]),(1,[]),(2,[]),(3,[]),(5,[]),(6,[]),(7,[]),(11,[]),(12,[]),(13,[]),(14,[]),(16,[]),(17,[]),(18,[]),(4,[]),(8,[]),(9,[]),(10,[]),(15,[]),(19,[]),(20,[]),(21,[]),(22,[]),(23,[])]) (cond (Nat.beq i 21) (some [(0,[]),(1,[]),(2,[]),(3,[]),(5,[]),(6,[]),(7,[]),(11,[]),(12,[]),(13,[]),(14,[]),(16,[]),(17,[]),(18,[]),(22,[]),(4,[]),(8,[]),(9,[]),(10,[]),(15,[]),(19,[]),(20,[]),(21,[]),(23,[]),(24,[])]) (none)))))))
abbrev Nu (n:Nat):List (gj (Unit⊕Int)):=[⟨[0,1,1,0,0,1,1,0,0,1,0,1,1,1,1,1],[.code [1,1,1,0,0,1,1,0,0,1,0,1,1,1,1,1],.ar 2,.code [1,1,1,0,0,1,0,1,1,1,1,1]],[(0,tA),(2,tA),(4,tyM),(11,tA),(12,tA),(14,cJ),(15,cJ),(16,aB),(93,aB),(94,aB)],λx=>zY n x.1 x.2.1 x.2.2.1 x.2.2.2.1 x.2.2.2.2.1 x.2.2.2.2.2.1 x.2.2.2.2.2.2.1 x.2.2.2.2.2.2.2.1 x.2.2.2.2.2.2.2.2.1 x.2.2.2.2.2.2.2.2.2⟩]
abbrev DR (n:Nat):List jx:=[⟨22,[aB,aB],[aB],λx a=>oH n x a.1 a.2⟩]
def IY (i:Nat):Option (List (Nat×List Nat)):=cond (Nat.beq i 4) (some [(0,[]),(1,[]),(2,[]),(3,[]),(4,[]),(5,[]),(6,[]),(7,[]),(9,[]),(10,[]),(11,[]),(12,[]),(8,[]),(13,[]),(14,[]),(15,[]),(16,[])]) (cond (Nat.beq i 6) (some [(0,[]),(1,[]),(2,[]),(3,[]),(4,[]),(5,[]),(6,[]),(7,[]),(8,[]),(10,[]),(11,[]),(12,[]),(9,[]),(13,[]),(14,[]),(15,[]),(16,[]),(17,[])]) (none))
abbrev Nv (n:Nat):List (gj Unit):=[⟨[0,0,1,0,0,1,0,0,1,0,0,1],[.ar 3,.code [1,1,0,0,1,0,0,1,0,0,1]],[(0,cJ),(1,aB),(2,aB),(3,rW),(8,aB),(9,aB)],λx=>n0 n x.1 x.2.1 x.2.2.1 x.2.2.2.1 x.2.2.2.2.1 x.2.2.2.2.2⟩]
def IZ (i:Nat):Option (List (Nat×List Nat)):=cond (Nat.beq i 10) (some [(0,[]),(1,[]),(2,[]),(3,[]),(4,[]),(5,[]),(6,[]),(7,[]),(8,[]),(9,[]),(10,[]),(12,[]),(13,[]),(14,[]),(11,[]),(15,[]),(16,[]),(17,[]),(18,[]),(19,[])]) (none)
abbrev Ye (n:Nat):List (gj (Int×Int)):=[⟨[0,1,1,1,1,1,1,1],[.code [1,1,1,1,1,1,1,1]],[(11,aK),(13,aB)],λx=>qg n x.1 x.2⟩]
abbrev yy (n:Nat):List jx:=[⟨23,[aB,aB],[aB],λx a=>ma n x a.1 a.2⟩, ⟨72,[aB,aB],[aB],λx a=>mc n x a.1 a.2⟩, ⟨112,[aB,aB],[aB],λx a=>lJ n x a.1 a.2⟩]
def AV (i:Nat):Option (List (Nat×List Nat)):=cond (Nat.beq i 5) (some [(0,[]),(1,[]),(2,[]),(3,[]),(4,[]),(5,[]),(6,[]),(7,[]),(9,[]),(10,[]),(11,[]),(12,[]),(8,[]),(13,[]),(14,[]),(15,[]),(16,[]),(17,[])]) (cond (Nat.beq i 11) (some [(0,[]),(1,[]),(2,[]),(3,[]),(4,[]),(5,[]),(6,[]),(7,[]),(8,[]),(10,[]),(11,[]),(12,[]),(9,[]),(13,[]),(14,[]),(15,[]),(16,[]),(17,[])]) (cond (Nat.beq i 16) (some [(0,[]),(1,[]),(2,[]),(3,[]),(5,[]),(6,[]),(7,[]),(8,[]),(4,[]),(9,[]),(10,[]),(11,[]),(12,[])]) (cond (Nat.beq i 17) (some [(0,[]),(1,[]),(2,[]),(3,[]),(4,[]),(5,[]),(6,[]),(7,[]),(8,[]),(10,[]),(11,[]),(12,[]),(9,[]),(13,[]),(14,[]),(15,[]),(16,[]),(17,[])]) (cond (Nat.beq i 22) (some [(0,[]),(1,[]),(2,[]),(3,[]),(5,[]),(6,[]),(7,[]),(8,[]),(4,[]),(9,[]),(10,[]),(11,[]),(12,[])]) (cond (Nat.beq i 23) (some [(0,[]),(1,[]),(2,[]),(3,[]),(4,[]),(5,[]),(6,[]),(7,[]),(8,[]),(10,[]),(11,[]),(12,[]),(9,[]),(13,[]),(14,[]),(15,[]),(16,[]),(17,[])]) (none))))))
abbrev Nw (n:Nat):List (gj (Unit⊕Bool)):=[⟨[0,1,1,1,1,1,0,0,1,0,0,1,0,1,1],[.code [1,1,1,1,1,1,0,0,1,0,0,1,0,1,1],.ar 1,.code [1,1,0,0,1,0,1,1]],[(0,cJ),(1,aB),(2,aB),(3,rW),(9,aB),(10,aB)],λx=>lz n x.1 x.2.1 x.2.2.1 x.2.2.2.1 x.2.2.2.2.1 x.2.2.2.2.2⟩]
abbrev AW (n:Nat):List jx:=[⟨35,[aB,aB],[aB],λx a=>om n x a.1 a.2⟩, ⟨54,[aB,aB],[aB],λx a=>oo n x a.1 a.2⟩]
def DT (i:Nat):Option (List (Nat×List Nat)):=cond (Nat.beq i 1) (some [(0,[]),(1,[]),(2,[]),(3,[]),(4,[]),(5,[]),(6,[]),(8,[]),(9,[]),(10,[]),(7,[]),(11,[]),(12,[]),(13,[]),(14,[]),(15,[])]) (cond (Nat.beq i 3) (some [(0,[]),(1,[]),(2,[]),(3,[]),(4,[]),(5,[]),(6,[]),(7,[]),(9,[]),(10,[]),(11,[]),(8,[]),(12,[]),(13,[]),(14,[]),(15,[]),(16,[])]) (cond (Nat.beq i 5) (some [(0,[]),(1,[]),(2,[]),(3,[]),(4,[]),(5,[]),(6,[]),(7,[]),(9,[]),(10,[]),(11,[]),(8,[]),(12,[]),(13,[]),(14,[]),(15,[])]) (cond (Nat.beq i 8) (some [(0,[]),(1,[]),(2,[]),(3,[]),(4,[]),(5,[]),(6,[]),(8,[]),(9,[]),(10,[]),(7,[]),(11,[]),(12,[]),(13,[]),(14,[]),(15,[])]) (none))))
abbrev wy (n:Nat):List jx:=[⟨36,[aB,aB],[aB],λx a=>qz n x a.1 a.2⟩, ⟨54,[aB,aB],[aB],λx a=>qA n x a.1 a.2⟩, ⟨109,[aB,aB],[aB],λx a=>qe n x a.1 a.2⟩, ⟨127,[aB,aB],[aB],λx a=>qf n x a.1 a.2⟩]
def yz (i:Nat):Option (List (Nat×List Nat)):=cond (Nat.beq i 1) (some [(0,[]),(1,[]),(2,[]),(3,[]),(4,[]),(5,[]),(6,[]),(8,[]),(9,[]),(10,[]),(7,[]),(11,[]),(12,[]),(13,[]),(14,[]),(15,[])]) (cond (Nat.beq i 3) (some [(0,[]),(1,[]),(2,[]),(3,[]),(4,[]),(5,[]),(6,[]),(7,[]),(9,[]),(10,[]),(11,[]),(8,[]),(12,[]),(13,[]),(14,[]),(15,[])]) (cond (Nat.beq i 5) (some [(0,[]),(1,[]),(2,[]),(3,[]),(4,[]),(5,[]),(6,[]),(7,[]),(9,[]),(10,[]),(11,[]),(8,[]),(12,[]),(13,[]),(14,[]),(15,[]),(16,[])]) (cond (Nat.beq i 8) (some [(0,[]),(1,[]),(2,[]),(3,[]),(4,[]),(5,[]),(6,[]),(8,[]),(9,[]),(10,[]),(7,[]),(11,[]),(12,[]),(13,[]),(14,[]),(15,[])]) (cond (Nat.beq i 10) (some [(0,[]),(1,[]),(2,[]),(3,[]),(4,[]),(5,[]),(6,[]),(8,[]),(9,[]),(10,[]),(7,[]),(11,[]),(12,[]),(13,[]),(14,[]),(15,[])]) (cond (Nat.beq i 13) (some [(0,[]),(1,[]),(2,[]),(3,[]),(4,[]),(5,[]),(6,[]),(7,[]),(9,[]),(10,[]),(11,[]),(8,[]),(12,[]),(13,[]),(14,[]),(15,[])]) (cond (Nat.beq i 15) (some [(0,[]),(1,[]),(2,[]),(3,[]),(4,[]),(5,[]),(6,[]),(7,[]),(9,[]),(10,[]),(11,[]),(8,[]),(12,[]),(13,[]),(14,[]),(15,[]),(16,[])]) (cond (Nat.beq i 18) (some [(0,[]),(1,[]),(2,[]),(3,[]),(4,[]),(5,[]),(6,[]),(8,[]),(9,[]),(10,[]),(7,[]),(11,[]),(12,[]),(13,[]),(14,[]),(15,[])]) (cond (Nat.beq i 21) (some [(0,[]),(1,[]),(2,[]),(3,[]),(4,[]),(5,[]),(6,[]),(8,[]),(9,[]),(10,[]),(7,[]),(11,[]),(12,[]),(13,[]),(14,[]),(15,[])]) (none)))))))))
abbrev I0 (n:Nat):List jx:=[⟨24,[aB,aB],[aB],λx a=>rj n x a.1 a.2⟩, ⟨43,[aB,aB],[aB],λx a=>rk n x a.1 a.2⟩]
def Py (i:Nat):Option (List (Nat×List Nat)):=cond (Nat.beq i 3) (some [(0,[]),(1,[]),(2,[]),(3,[]),(4,[]),(5,[]),(6,[]),(7,[]),(8,[]),(9,[]),(10,[]),(12,[]),(13,[]),(14,[]),(15,[]),(16,[]),(17,[]),(11,[]),(18,[]),(19,[]),(20,[]),(21,[])]) (cond (Nat.beq i 5) (some [(0,[]),(1,[]),(2,[]),(3,[]),(4,[]),(5,[]),(7,[]),(8,[]),(9,[]),(10,[]),(11,[]),(6,[]),(12,[]),(13,[]),(14,[]),(15,[])]) (cond (Nat.beq i 6) (some [(0,[]),(1,[]),(2,[]),(3,[]),(4,[]),(5,[]),(6,[]),(7,[]),(8,[]),(9,[]),(10,[]),(11,[]),(12,[]),(14,[]),(15,[]),(16,[]),(17,[]),(18,[]),(13,[]),(19,[]),(20,[]),(21,[]),(22,[]),(23,[])]) (none)))
abbrev Nx (n:Nat):List (gj (Unit⊕Unit)):=[⟨[0,0,1,1,1,0,0,0,1],[.code [1,0,1,1,1,0,0,0,1],.code [1,1,1,1,0,0,0,1],.ar 1],[(0,cJ),(2,aB),(3,aB),(4,rW),(10,aB),(11,aB)],λx=>qh n x.1 x.2.1 x.2.2.1 x.2.2.2.1 x.2.2.2.2.1 x.2.2.2.2.2⟩]
abbrev Pz (n:Nat):List jx:=[⟨12,[aB,aB],[aB],λx a=>sH n x a.1 a.2⟩]
def Yf (i:Nat):Option (List (Nat×List Nat)):=cond (Nat.beq i 1) (some [(0,[]),(1,[]),(2,[]),(3,[]),(5,[]),(6,[]),(7,[]),(4,[]),(8,[]),(9,[]),(10,[])]) (none)
def ao (n:Nat):Prop:=aP TZp (UX n)/\aP TZp (UY n)/\aP TZp (UZ n)/\aP TZp (U0 n)/\aP TZp (Nf n)/\aP TZp (Ng n)/\aP TZp (Nh n)/\aP TZp (Ni n)/\aP TZp (Nj n)/\aP TZp (Nk n)/\aP TZp (Nl n)/\aP TZp (Nn n)/\aP TZp (Np n)/\aP TZp (Nq n)/\aP TZp (Nr n)/\aP TZp (Ns n)
theorem gL (n:Nat)(H:ao n):aJ TZp (wx n):=.cons H.1 (.cons H.2.1 (.cons H.2.2.1 (.cons H.2.2.2.1 (.cons H.2.2.2.2.1 (.cons H.2.2.2.2.2.1 (.cons H.2.2.2.2.2.2.1 (.cons H.2.2.2.2.2.2.2.1 (.cons H.2.2.2.2.2.2.2.2.1 (.cons H.2.2.2.2.2.2.2.2.2.1 (.cons H.2.2.2.2.2.2.2.2.2.2.1 (.cons H.2.2.2.2.2.2.2.2.2.2.2.1 (.cons H.2.2.2.2.2.2.2.2.2.2.2.2.1 (.cons H.2.2.2.2.2.2.2.2.2.2.2.2.2.1 (.cons H.2.2.2.2.2.2.2.2.2.2.2.2.2.2.1 (.cons H.2.2.2.2.2.2.2.2.2.2.2.2.2.2.2 (K77 n))))))))))))))))
theorem RT (n:Nat)(H:∀m,m<n->ao m):kE TZp Tryz.f48 (IW.e n) IW.ws:=L1.ok Tryz.f48 IW n wx (hT:=λm hm=>.m1 (gL m (H m hm)))
theorem td (n:Nat)(H:∀m,m<n+1->ao m):aP TZp (UX (n+1)):=bE Tryz.f48 (wx n) (ll:=[IW.e n]) (js:=abS n) (hT:=⟨.nil,gL n (H n (aar n)),.nil,(.cc (RT n (λk hk=>H k (abX hk))) .nil),(.cc .nil)⟩)
theorem qF (n:Nat)(H:∀m,m<n+1->ao m):aP TZp (UY (n+1)):=bE Tryz.f74 (wx n) (hT:=.m1 (gL n (H n (aar n))))
theorem r7 (n:Nat)(H:∀m,m<n+1->ao m):aP TZp (UZ (n+1)):=bE Tryz.f75 (wx n) (dr:=abT) (hT:=.m1 (gL n (H n (aar n))))
theorem xa (n:Nat)(H:∀m,m<n+1->ao m):aP TZp (U0 (n+1)):=bE Tryz.f76 (wx n) (hT:=.m1 (gL n (H n (aar n))))
theorem PB (n:Nat)(H:ao n):oY TZp (IX n):=.cons (dq (l:=[⟨75,[aK,aK],λa c=>aN n a.1 a.2 c.1 c.2⟩]) (.cons (λa c=>aT (by kernel_rfl) ((H).2.2.1 (a.1,a.2,c.1,c.2))) .nil) (λx a=>by kernel_rfl)) .nil
theorem Ny (n:Nat)(H:∀m,m<n->ao m):kE TZp Tryz.f104 (Dv.e n) Dv.ws:=Lr.ok Tryz.f104 Dv n wx (dt:=IX) (dr:=Pw) (jt:=Nt) (hT:=λm hm=>⟨.nil,gL m (H m hm),(PB m (H m hm)),.nil,(.cc (.cc (.cc (.cc .nil))))⟩)
theorem pz (n:Nat)(H:∀m,m<n+1->ao m):aP TZp (Nf (n+1)):=bE Tryz.f104 (wx n) (dl:=IX n) (ll:=[Dv.e n]) (dr:=Pw) (hT:=⟨.nil,gL n (H n (aar n)),(PB n (H n (aar n))),(.cc (Ny n (λk hk=>H k (abX hk))) .nil),.nil⟩)
theorem Nz (n:Nat)(H:∀m,m<n->ao m):kE TZp Tryz.f106 (Dw.e n) Dw.ws:=L2.ok Tryz.f106 Dw n wx (dr:=Px) (jt:=Nu) (hT:=λm hm=>⟨.nil,gL m (H m hm),.nil,.nil,(.cc .nil)⟩)
theorem xY (n:Nat)(H:∀m,m<n+1->ao m):aP TZp (Ng (n+1)):=bE Tryz.f106 (wx n) (ll:=[Dw.e n]) (dr:=Px) (hT:=⟨.nil,gL n (H n (aar n)),.nil,(.cc (Nz n (λk hk=>H k (abX hk))) .nil),.nil⟩)
theorem I1 (n:Nat)(H:ao n):oY TZp (DR n):=.cons (dq (l:=[⟨75,[aK,aK],λa c=>aN n a.1 a.2 c.1 c.2⟩]) (.cons (λa c=>aT (by kernel_rfl) ((H).2.2.1 (a.1,a.2,c.1,c.2))) .nil) (λx a=>by kernel_rfl)) .nil
theorem NA (n:Nat)(H:∀m,m<n->ao m):kE TZp Tryz.f136 (Dy.e n) Dy.ws:=L1.ok Tryz.f136 Dy n wx (dt:=DR) (dr:=IY) (jt:=Nv) (hT:=λm hm=>⟨.nil,gL m (H m hm),(I1 m (H m hm)),.nil,(.cc .nil)⟩)
theorem NB (n:Nat)(H:∀m,m<n->ao m):kE TZp Tryz.f136 (Dx.e n) Dx.ws:=L1.ok Tryz.f136 Dx n wx (dt:=DR) (lt:=λn=>[Dy.e n]) (dr:=IY) (hT:=λm hm=>⟨.nil,gL m (H m hm),(I1 m (H m hm)),(.cc (NA m (λk hk=>H k (afu hk hm))) .nil),.nil⟩)
theorem nj (n:Nat)(H:∀m,m<n+1->ao m):aP TZp (Nh (n+1)):=bE Tryz.f136 (wx n) (dl:=DR n) (ll:=[Dx.e n]) (dr:=IY) (hT:=⟨.nil,gL n (H n (aar n)),(I1 n (H n (aar n))),(.cc (NB n (λk hk=>H k (abX hk))) .nil),.nil⟩)
theorem ND (n:Nat)(H:∀m,m<n->ao m):kE TZp Tryz.f137 (Dz.e n) Dz.ws:=L1.ok Tryz.f137 Dz n wx (dr:=IZ) (hT:=λm hm=>.m1 (gL m (H m hm)))
theorem NF (n:Nat)(H:∀m,m<n->ao m):kE TZp Tryz.f137 (DA.e n) DA.ws:=L1.ok Tryz.f137 DA n wx (dr:=IZ) (hT:=λm hm=>.m1 (gL m (H m hm)))
theorem pd (n:Nat)(H:∀m,m<n+1->ao m):aP TZp (Ni (n+1)):=bE Tryz.f137 (wx n) (ll:=[Dz.e n,DA.e n]) (dr:=IZ) (hT:=⟨.nil,gL n (H n (aar n)),.nil,(.cc (ND n (λk hk=>H k (abX hk))) (.cc (NF n (λk hk=>H k (abX hk))) .nil)),.nil⟩)
theorem n7 (n:Nat)(H:∀m,m<n+1->ao m):aP TZp (Nj (n+1)):=bE Tryz.f139 (wx n) (js:=Ye n) (hT:=⟨.nil,gL n (H n (aar n)),.nil,.nil,(.cc .nil)⟩)
theorem AX (n:Nat)(H:ao n):oY TZp (yy n):=.cons (dq (l:=[⟨75,[aK,aK],λa c=>aN n a.1 a.2 c.1 c.2⟩]) (.cons (λa c=>aT (by kernel_rfl) ((H).2.2.1 (a.1,a.2,c.1,c.2))) .nil) (λx a=>by kernel_rfl)) (.cons (dq (l:=[⟨75,[aK,aK],λa c=>aN n a.1 a.2 c.1 c.2⟩]) (.cons (λa c=>aT (by kernel_rfl) ((H).2.2.1 (a.1,a.2,c.1,c.2))) .nil) (λx a=>by kernel_rfl)) (.cons (dq (l:=[⟨75,[aK,aK],λa c=>aN n a.1 a.2 c.1 c.2⟩]) (.cons (λa c=>aT (by kernel_rfl) ((H).2.2.1 (a.1,a.2,c.1,c.2))) .nil) (λx a=>by kernel_rfl)) .nil))
theorem NG (n:Nat)(H:∀m,m<n->ao m):kE TZp Tryz.f141 (DE.e n) DE.ws:=L1.ok Tryz.f141 DE n wx (dt:=yy) (dr:=AV) (hT:=λm hm=>⟨.nil,gL m (H m hm),(AX m (H m hm)),.nil,.nil⟩)
theorem NH (n:Nat)(H:∀m,m<n->ao m):kE TZp Tryz.f141 (DF.e n) DF.ws:=L1.ok Tryz.f141 DF n wx (dt:=yy) (dr:=AV) (hT:=λm hm=>⟨.nil,gL m (H m hm),(AX m (H m hm)),.nil,.nil⟩)
theorem NI (n:Nat)(H:∀m,m<n->ao m):kE TZp Tryz.f141 (DC.e n) DC.ws:=L1.ok Tryz.f141 DC n wx (dt:=yy) (dr:=AV) (hT:=λm hm=>⟨.nil,gL m (H m hm),(AX m (H m hm)),.nil,.nil⟩)
theorem NJ (n:Nat)(H:∀m,m<n->ao m):kE TZp Tryz.f141 (DB.e n) DB.ws:=L2.ok Tryz.f141 DB n wx (dt:=yy) (lt:=λn=>[DC.e n,DE.e n,DF.e n]) (dr:=AV) (jt:=Nw) (hT:=λm hm=>⟨.nil,gL m (H m hm),(AX m (H m hm)),(.cc (NI m (λk hk=>H k (afu hk hm))) (.cc (NG m (λk hk=>H k (afu hk hm))) (.cc (NH m (λk hk=>H k (afu hk hm))) .nil))),(.cc .nil)⟩)
theorem kz (n:Nat)(H:∀m,m<n+1->ao m):aP TZp (Nk (n+1)):=bE Tryz.f141 (wx n) (dl:=yy n) (ll:=[DB.e n]) (dr:=AV) (hT:=⟨.nil,gL n (H n (aar n)),(AX n (H n (aar n))),(.cc (NJ n (λk hk=>H k (abX hk))) .nil),.nil⟩)
theorem DU (n:Nat)(H:ao n):oY TZp (AW n):=.cons (dq (l:=[⟨75,[aK,aK],λa c=>aN n a.1 a.2 c.1 c.2⟩]) (.cons (λa c=>aT (by kernel_rfl) ((H).2.2.1 (a.1,a.2,c.1,c.2))) .nil) (λx a=>by kernel_rfl)) (.cons (dq (l:=[⟨75,[aK,aK],λa c=>aN n a.1 a.2 c.1 c.2⟩]) (.cons (λa c=>aT (by kernel_rfl) ((H).2.2.1 (a.1,a.2,c.1,c.2))) .nil) (λx a=>by kernel_rfl)) .nil)
theorem NK (n:Nat)(H:∀m,m<n->ao m):kE TZp Tryz.f142 (DI.e n) DI.ws:=L1.ok Tryz.f142 DI n wx (dt:=AW) (dr:=DT) (hT:=λm hm=>⟨.nil,gL m (H m hm),(DU m (H m hm)),.nil,.nil⟩)
theorem NL (n:Nat)(H:∀m,m<n->ao m):kE TZp Tryz.f142 (DH.e n) DH.ws:=L1.ok Tryz.f142 DH n wx (dt:=AW) (dr:=DT) (hT:=λm hm=>⟨.nil,gL m (H m hm),(DU m (H m hm)),.nil,.nil⟩)
theorem NM (n:Nat)(H:∀m,m<n->ao m):kE TZp Tryz.f142 (DG.e n) DG.ws:=L1.ok Tryz.f142 DG n wx (dt:=AW) (lt:=λn=>[DH.e n,DI.e n]) (dr:=DT) (hT:=λm hm=>⟨.nil,gL m (H m hm),(DU m (H m hm)),(.cc (NL m (λk hk=>H k (afu hk hm))) (.cc (NK m (λk hk=>H k (afu hk hm))) .nil)),.nil⟩)
theorem mQ (n:Nat)(H:∀m,m<n+1->ao m):aP TZp (Nl (n+1)):=bE Tryz.f142 (wx n) (dl:=AW n) (ll:=[DG.e n]) (dr:=DT) (hT:=⟨.nil,gL n (H n (aar n)),(DU n (H n (aar n))),(.cc (NM n (λk hk=>H k (abX hk))) .nil),.nil⟩)
theorem yA (n:Nat)(H:ao n):oY TZp (wy n):=.cons (dq (l:=[⟨75,[aK,aK],λa c=>aN n a.1 a.2 c.1 c.2⟩]) (.cons (λa c=>aT (by kernel_rfl) ((H).2.2.1 (a.1,a.2,c.1,c.2))) .nil) (λx a=>by kernel_rfl)) (.cons (dq (l:=[⟨75,[aK,aK],λa c=>aN n a.1 a.2 c.1 c.2⟩]) (.cons (λa c=>aT (by kernel_rfl) ((H).2.2.1 (a.1,a.2,c.1,c.2))) .nil) (λx a=>by kernel_rfl)) (.cons (dq (l:=[⟨75,[aK,aK],λa c=>aN n a.1 a.2 c.1 c.2⟩]) (.cons (λa c=>aT (by kernel_rfl) ((H).2.2.1 (a.1,a.2,c.1,c.2))) .nil) (λx a=>by kernel_rfl)) (.cons (dq (l:=[⟨75,[aK,aK],λa c=>aN n a.1 a.2 c.1 c.2⟩]) (.cons (λa c=>aT (by kernel_rfl) ((H).2.2.1 (a.1,a.2,c.1,c.2))) .nil) (λx a=>by kernel_rfl)) .nil)))
theorem NN (n:Nat)(H:∀m,m<n->ao m):kE TZp Tryz.f143 (DP.e n) DP.ws:=L1.ok Tryz.f143 DP n wx (dt:=wy) (dr:=yz) (hT:=λm hm=>⟨.nil,gL m (H m hm),(yA m (H m hm)),.nil,.nil⟩)
theorem NO (n:Nat)(H:∀m,m<n->ao m):kE TZp Tryz.f143 (DO.e n) DO.ws:=L1.ok Tryz.f143 DO n wx (dt:=wy) (dr:=yz) (hT:=λm hm=>⟨.nil,gL m (H m hm),(yA m (H m hm)),.nil,.nil⟩)
theorem NP (n:Nat)(H:∀m,m<n->ao m):kE TZp Tryz.f143 (DN.e n) DN.ws:=L1.ok Tryz.f143 DN n wx (dt:=wy) (lt:=λn=>[DO.e n,DP.e n]) (dr:=yz) (hT:=λm hm=>⟨.nil,gL m (H m hm),(yA m (H m hm)),(.cc (NO m (λk hk=>H k (afu hk hm))) (.cc (NN m (λk hk=>H k (afu hk hm))) .nil)),.nil⟩)
theorem NQ (n:Nat)(H:∀m,m<n->ao m):kE TZp Tryz.f143 (DK.e n) DK.ws:=L1.ok Tryz.f143 DK n wx (dt:=wy) (dr:=yz) (hT:=λm hm=>⟨.nil,gL m (H m hm),(yA m (H m hm)),.nil,.nil⟩)
theorem NR (n:Nat)(H:∀m,m<n->ao m):kE TZp Tryz.f143 (DJ.e n) DJ.ws:=L1.ok Tryz.f143 DJ n wx (dt:=wy) (dr:=yz) (hT:=λm hm=>⟨.nil,gL m (H m hm),(yA m (H m hm)),.nil,.nil⟩)
theorem oI (n:Nat)(H:∀m,m<n+1->ao m):aP TZp (Nn (n+1)):=bE Tryz.f143 (wx n) (dl:=wy n) (ll:=[DJ.e n,DK.e n,DN.e n]) (dr:=yz) (hT:=⟨.nil,gL n (H n (aar n)),(yA n (H n (aar n))),(.cc (NR n (λk hk=>H k (abX hk))) (.cc (NQ n (λk hk=>H k (abX hk))) (.cc (NP n (λk hk=>H k (abX hk))) .nil))),.nil⟩)
theorem PC (n:Nat)(H:ao n):oY TZp (I0 n):=.cons (dq (l:=[⟨75,[aK,aK],λa c=>aN n a.1 a.2 c.1 c.2⟩]) (.cons (λa c=>aT (by kernel_rfl) ((H).2.2.1 (a.1,a.2,c.1,c.2))) .nil) (λx a=>by kernel_rfl)) (.cons (dq (l:=[⟨75,[aK,aK],λa c=>aN n a.1 a.2 c.1 c.2⟩]) (.cons (λa c=>aT (by kernel_rfl) ((H).2.2.1 (a.1,a.2,c.1,c.2))) .nil) (λx a=>by kernel_rfl)) .nil)
theorem NT (n:Nat)(H:∀m,m<n->ao m):kE TZp Tryz.f165 (DQ.e n) DQ.ws:=L2.ok Tryz.f165 DQ n wx (dt:=I0) (dr:=Py) (jt:=Nx) (hT:=λm hm=>⟨.nil,gL m (H m hm),(PC m (H m hm)),.nil,(.cc .nil)⟩)
theorem pf (n:Nat)(H:∀m,m<n+1->ao m):aP TZp (Np (n+1)):=bE Tryz.f165 (wx n) (dl:=I0 n) (ll:=[DQ.e n]) (dr:=Py) (hT:=⟨.nil,gL n (H n (aar n)),(PC n (H n (aar n))),(.cc (NT n (λk hk=>H k (abX hk))) .nil),.nil⟩)
theorem mR (n:Nat)(H:∀m,m<n+1->ao m):aP TZp (Nq (n+1)):=bE Tryz.f168 (wx n) (hT:=.m1 (gL n (H n (aar n))))
theorem qi (n:Nat)(H:∀m,m<n+1->ao m):aP TZp (Nr (n+1)):=bE Tryz.f169 (wx n) (hT:=.m1 (gL n (H n (aar n))))
theorem Yg (n:Nat)(H:ao n):oY TZp (Pz n):=.cons (dq (l:=[⟨75,[aK,aK],λa c=>aN n a.1 a.2 c.1 c.2⟩]) (.cons (λa c=>aT (by kernel_rfl) ((H).2.2.1 (a.1,a.2,c.1,c.2))) .nil) (λx a=>by kernel_rfl)) .nil
theorem qj (n:Nat)(H:∀m,m<n+1->ao m):aP TZp (Ns (n+1)):=bE Tryz.f185 (wx n) (dl:=Pz n) (dr:=Yf) (hT:=⟨.nil,gL n (H n (aar n)),(Yg n (H n (aar n))),.nil,.nil⟩)
theorem uq:∀n m,m<n->ao m:=by
 intro n
 induction n with
 |zero=>intro m hm;exact absurd hm (afv m)
 |succ n ih=>
  intro m hm;cases m with
  |zero=>exact⟨fX (fn:=Tryz.f48) (by kernel_rfl) (by kernel_rfl) (by kernel_rfl) (λ_=>rfl),fX (fn:=Tryz.f74) (by kernel_rfl) (by kernel_rfl) (by kernel_rfl) (λ_=>rfl),fX (fn:=Tryz.f75) (by kernel_rfl) (by kernel_rfl) (by kernel_rfl) (λ_=>rfl),fX (fn:=Tryz.f76) (by kernel_rfl) (by kernel_rfl) (by kernel_rfl) (λ_=>rfl),fX (fn:=Tryz.f104) (by kernel_rfl) (by kernel_rfl) (by kernel_rfl) (λ_=>rfl),fX (fn:=Tryz.f106) (by kernel_rfl) (by kernel_rfl) (by kernel_rfl) (λ_=>rfl),fX (fn:=Tryz.f136) (by kernel_rfl) (by kernel_rfl) (by kernel_rfl) (λ_=>rfl),fX (fn:=Tryz.f137) (by kernel_rfl) (by kernel_rfl) (by kernel_rfl) (λ_=>rfl),fX (fn:=Tryz.f139) (by kernel_rfl) (by kernel_rfl) (by kernel_rfl) (λ_=>rfl),fX (fn:=Tryz.f141) (by kernel_rfl) (by kernel_rfl) (by kernel_rfl) (λ_=>rfl),fX (fn:=Tryz.f142) (by kernel_rfl) (by kernel_rfl) (by kernel_rfl) (λ_=>rfl),fX (fn:=Tryz.f143) (by kernel_rfl) (by kernel_rfl) (by kernel_rfl) (λ_=>rfl),fX (fn:=Tryz.f165) (by kernel_rfl) (by kernel_rfl) (by kernel_rfl) (λ_=>rfl),fX (fn:=Tryz.f168) (by kernel_rfl) (by kernel_rfl) (by kernel_rfl) (λ_=>rfl),fX (fn:=Tryz.f169) (by kernel_rfl) (by kernel_rfl) (by kernel_rfl) (λ_=>rfl),fX (fn:=Tryz.f185) (by kernel_rfl) (by kernel_rfl) (by kernel_rfl) (λ_=>rfl)⟩
  |succ k=>exact⟨td k λm hm=>ih m (by omega),qF k λm hm=>ih m (by omega),r7 k λm hm=>ih m (by omega),xa k λm hm=>ih m (by omega),pz k λm hm=>ih m (by omega),xY k λm hm=>ih m (by omega),nj k λm hm=>ih m (by omega),pd k λm hm=>ih m (by omega),n7 k λm hm=>ih m (by omega),kz k λm hm=>ih m (by omega),mQ k λm hm=>ih m (by omega),oI k λm hm=>ih m (by omega),pf k λm hm=>ih m (by omega),mR k λm hm=>ih m (by omega),qi k λm hm=>ih m (by omega),qj k λm hm=>ih m (by omega)⟩
theorem K78 (n:Nat):aJ TZp (wx n):=gL n (uq (n+1) n (aar n))
structure aW where
 ia:Addr->Addr->Int->Option Addr->Addr->Sl->Int->Int->M Unit
 gu:Int->Addr->Addr->Addr->Addr->Addr->Addr->M Int
def gX (G:aW)(n:Nat)(x:Value)(a0:Int):M Int:=if qw nN x then sh (oX [aK,aK,aK,aK,aK,aK] x) λ(c:Addr×Addr×Addr×Addr×Addr×Addr)=>G.gu a0 c.1 c.2.1 c.2.2.1 c.2.2.2.1 c.2.2.2.2.1 c.2.2.2.2.2 else AS
abbrev r8:=gX
def gr (G:aW)(n:Nat)(a0 a1:Addr)(a2:Int)(a3:Option Addr)(a4:Addr)(a5:Int)(a6:Sl)(a7 a8:Int):M Unit:=sh (nn a3) λx0=>sh (aq .sl (a4.plus 4)) λ(x1:Sl)=>sh (aq .raw a0) λ(x2:Value)=>sh (aq .sl (x0.plus 4)) λ(x3:Sl)=>sh (av x3 a5 1) λx4=>sh (aq li x4) λ(x5:Int)=>sh (kG [some (a4.plus 4)] (r8 G n x2 x5)) λx6=>sh (app true x1 1 au 1 [vi x6]) λx7=>sh (bG (a4.plus 4) [aE x7]) λx8=>G.ia a0 a1 a2 a3 a4 a6 a7 (i64.wrap (a8+1))
def oq (G:aW)(n:Nat)(a0 a1:Addr)(a2:Int)(a3:Option Addr)(a4:Addr)(a5:Sl)(a6 a7:Int):M Unit:=if decide (a7<a6) then sh (av a5 a7 1) λx0=>sh (aq li x0) λ(x1:Int)=>sh (nn a3) λx2=>sh (aq li (x2.plus 0)) λ(x3:Int)=>if decide (x3=10) then sh (nn a3) λx4=>sh (aq .sl (a4.plus 3)) λ(x5:Sl)=>sh (aq .raw a0) λ(x6:Value)=>sh (aq .sl (x4.plus 3)) λ(x7:Sl)=>sh (av x7 x1 1) λx8=>sh (aq li x8) λ(x9:Int)=>sh (kG [some (a4.plus 3)] (gX G n x6 x9)) λx10=>sh (app true x5 1 au 1 [vi x10]) λx11=>sh (bG (a4.plus 3) [aE x11]) λx12=>gr G n a0 a1 a2 a3 a4 x1 a5 a6 a7 else gr G n a0 a1 a2 a3 a4 x1 a5 a6 a7 else AI ()
def rl (G:aW)(n:Nat)(a0:Int)(a1 a2 a3 a4 a5 a6:Addr):M Int:=sh (aq .sl a1) λ(x0:Sl)=>sh (av x0 a0 1) λx1=>sh (aq li x1) λ(x2:Int)=>if decide (0<=x2) then sh (aq .sl a1) λ(x3:Sl)=>sh (av x3 a0 1) λx4=>sh (aq li x4) λ(x5:Int)=>AI x5 else sh (aq li a2) λ(x3:Int)=>sh (aq .sl a1) λ(x4:Sl)=>sh (av x4 a0 1) λx5=>sh (bG x5 [vi x3]) λx6=>sh (aq li a2) λ(x7:Int)=>sh (bG a2 [vi (i64.wrap (x7+1))]) λx8=>sh (aq .sl (a3.plus 0)) λ(x9:Sl)=>sh (av x9 a0 5) λx10=>sh (eS 15) λx11=>sh (nn (some x10)) λx12=>sh (nn (some x10)) λx13=>sh (nn (some x10)) λiK=>sh (aq li (x12.plus 0)) λ(x15:Int)=>sh (aq .str (x13.plus 1)) λ(po:ByteArray)=>sh (aq .bool (iK.plus 2)) λ(x17:Bool)=>sh (aO (some (x11+13)) aw [vi 0,.string (ofBytes []),.bool false,aU,aU]) λqH=>sh (bG (ak qH) [vi x15,.string po,.bool x17,aU,aU]) λx19=>sh (aq .ptr a4) λ(x20:Option Addr)=>sh (dX n x20 a0) λx21=>sh (G.ia a5 a6 x3 (some x10) (ak qH) x21 (↑x21.len:Int) 0) λx22=>sh (aq .sl (a6.plus 0)) λ(x23:Sl)=>sh (aI [li,.str,.bool,.sl,.sl] (ak qH)) λ(x24:Int×ByteArray×Bool×Sl×Sl)=>sh (av x23 x3 5) λx25=>sh (bG x25 [vi x24.1,.string x24.2.1,.bool x24.2.2.1,aE x24.2.2.2.1,aE x24.2.2.2.2]) λx26=>AI x3
def aW.at:Nat->aW|0=>⟨λ_ _ _ _ _ _ _ _=>AS,λ_ _ _ _ _ _ _=>AS⟩|n+1=>⟨oq (aW.at n) n,rl (aW.at n) n⟩
def ia (n:Nat):=(aW.at n).ia
def gu (n:Nat):=(aW.at n).gu
def zZ (n:Nat):=gX (aW.at n) n
def Aa (n:Nat):=r8 (aW.at n) n
def xZ (n:Nat):=gr (aW.at n) n
abbrev PD (n:Nat):bz:=⟨47,[aB,aK,aK,aK,aK,aK,aK],[aB],λx=>gu n x.1 x.2.1 x.2.2.1 x.2.2.2.1 x.2.2.2.2.1 x.2.2.2.2.2.1 x.2.2.2.2.2.2⟩
abbrev I2:L1:=⟨[0,1,0,1,1,1,1,1,1,1],[(5,aK),(6,aK),(9,aB),(10,tA),(11,aK),(49,cJ),(50,aB),(51,aB)],[],[13]++List.range' 51 38,0,λn x=>ia n x.1 x.2.1 x.2.2.1 x.2.2.2.1 x.2.2.2.2.1 x.2.2.2.2.2.1 x.2.2.2.2.2.2.1 x.2.2.2.2.2.2.2⟩
abbrev C79 (n:Nat):List bz:=PD n::wx n
abbrev NU (n:Nat):List jx:=[⟨62,[aB],[aB],λx a=>zZ n x a⟩, ⟨76,[aB],[aB],λx a=>Aa n x a⟩]
def U1 (i:Nat):Option (List (Nat×List Nat)):=cond (Nat.beq i 7) (some [(0,[]),(1,[]),(2,[]),(4,[]),(5,[]),(6,[]),(8,[]),(9,[]),(10,[]),(3,[]),(7,[]),(11,[]),(12,[]),(13,[]),(14,[])]) (cond (Nat.beq i 12) (some [(0,[]),(3,[]),(4,[]),(5,[]),(7,[]),(1,[]),(2,[]),(6,[]),(8,[]),(9,[]),(10,[1]),(11,[]),(12,[]),(13,[]),(14,[])]) (cond (Nat.beq i 13) (some [(0,[]),(3,[]),(4,[]),(5,[]),(7,[]),(1,[]),(2,[]),(6,[]),(8,[]),(9,[]),(10,[1]),(11,[]),(12,[]),(13,[]),(14,[])]) (none)))
abbrev RU (n:Nat):List (gj Unit):=[⟨[1,1,0,0,1,1,0,0,1,0,1,1,1,1,1,1,1],[.ar 1,.code [1,1,1,0,0,1,0,1,1,1,1,1,1,1]],[(5,aK),(6,aK),(9,aB),(10,tA),(11,aK),(13,aB),(49,cJ),(50,aB),(51,aB)],λx=>xZ n x.1 x.2.1 x.2.2.1 x.2.2.2.1 x.2.2.2.2.1 x.2.2.2.2.2.1 x.2.2.2.2.2.2.1 x.2.2.2.2.2.2.2.1 x.2.2.2.2.2.2.2.2⟩]
def lA (n:Nat):Prop:=aP TZp (PD n)
theorem U2 (n:Nat)(H:lA n):aJ TZp (C79 n):=.cons H (K78 n)
theorem U3 (n:Nat)(H:lA n):oY TZp (NU n):=.cons (dq (l:=[⟨47,[aK,aK,aK,aK,aK,aK],λa c=>gu n a c.1 c.2.1 c.2.2.1 c.2.2.2.1 c.2.2.2.2.1 c.2.2.2.2.2⟩]) (.cons (λa c=>aT (by kernel_rfl) ((H) (a,c.1,c.2.1,c.2.2.1,c.2.2.2.1,c.2.2.2.2.1,c.2.2.2.2.2))) .nil) (λx a=>by kernel_rfl)) (.cons (dq (l:=[⟨47,[aK,aK,aK,aK,aK,aK],λa c=>gu n a c.1 c.2.1 c.2.2.1 c.2.2.2.1 c.2.2.2.2.1 c.2.2.2.2.2⟩]) (.cons (λa c=>aT (by kernel_rfl) ((H) (a,c.1,c.2.1,c.2.2.1,c.2.2.2.1,c.2.2.2.2.1,c.2.2.2.2.2))) .nil) (λx a=>by kernel_rfl)) .nil)
theorem RV (n:Nat)(H:∀m,m<n->lA m):kE TZp Tryz.f47 (I2.e n) I2.ws:=L1.ok Tryz.f47 I2 n C79 (dt:=NU) (dr:=U1) (jt:=RU) (hT:=λm hm=>⟨.nil,U2 m (H m hm),(U3 m (H m hm)),.nil,(.cc .nil)⟩)
theorem wz (n:Nat)(H:∀m,m<n+1->lA m):aP TZp (PD (n+1)):=bE Tryz.f47 (C79 n) (dl:=NU n) (ll:=[I2.e n]) (dr:=U1) (hT:=⟨.nil,U2 n (H n (aar n)),(U3 n (H n (aar n))),(.cc (RV n (λk hk=>H k (abX hk))) .nil),.nil⟩)
theorem r9:∀n m,m<n->lA m:=by
 intro n
 induction n with
 |zero=>intro m hm;exact absurd hm (afv m)
 |succ n ih=>
  intro m hm;cases m with
  |zero=>exact fX (fn:=Tryz.f47) (by kernel_rfl) (by kernel_rfl) (by kernel_rfl) (λ_=>rfl)
  |succ k=>exact wz k λm hm=>ih m (by omega)
theorem AY (n:Nat):aP TZp (PD n):=(r9 (n+1) n (aar n))
theorem K79 (n:Nat):aJ TZp (C79 n):=U2 n (r9 (n+1) n (aar n))
def rn (n:Nat)(x:Value)(a0:Int):M Int:=if qw nN x then sh (oX [aK,aK,aK,aK,aK,aK] x) λ(c:Addr×Addr×Addr×Addr×Addr×Addr)=>gu n a0 c.1 c.2.1 c.2.2.1 c.2.2.2.1 c.2.2.2.2.1 c.2.2.2.2.2 else AS
def qk (G:Addr->Addr->Addr->Addr->Int->Int->M Unit)(n:Nat)(a0 a1 a2 a3:Addr)(a4 a5:Int):M Unit:=if decide (a5<a4) then sh (aq .sl a3) λ(x0:Sl)=>sh (av x0 a5 1) λx1=>sh (bG x1 [vi (-1)]) λx2=>G a0 a1 a2 a3 a4 (i64.wrap (a5+1)) else AI ()
def jU:Nat->Addr->Addr->Addr->Addr->Int->Int->M Unit|0=>λ_ _ _ _ _ _=>AS|n+1=>qk (jU n) n
theorem ya (n:Nat):jU (n+1)=qk (jU n) n:=rfl
def tf (n:Nat)(a0:Sl×Int):M (Sl×Int):=sh (aO none aj [aE a0.1,vi a0.2]) λx0=>sh (aO none aj [aU,vi 0]) λx1=>sh (aI [.sl,li] (ak x0)) λ(x2:Sl×Int)=>sh (xW n (x2.1,x2.2)) λx3=>sh (aO none bI [.pointer none]) λx4=>sh (bG (ak x4) [.pointer x3]) λx5=>sh (aq .sl ((ak x0).plus 0)) λ(x6:Sl)=>sh (vc none au [vi 0] (↑x6.len:Int) (↑x6.len:Int)) λx7=>sh (aO none aR [aU]) λx8=>sh (bG (ak x8) [aE x7]) λx9=>sh (aq .sl (ak x8)) λ(x10:Sl)=>sh (jU n (ak x0) (ak x1) (ak x4) (ak x8) (↑x10.len:Int) 0) λx11=>sh (aq .sl ((ak x0).plus 0)) λ(x12:Sl)=>sh (vc none aw [vi 0,.string (ofBytes []),.bool false,aU,aU] (↑x12.len:Int) (↑x12.len:Int)) λx13=>sh (aO none aj [aU,vi 0]) λiK=>sh (bG (ak iK) [aE x13,vi 0]) λx15=>sh (aO none au [vi 0]) λpo=>sh (bG (ak po) [vi 0]) λx17=>sh (aO none oC [Value.nilFunc]) λqH=>sh (bG (ak qH) [.func (Fn.func nN) #[] #[.pointer (some (ak x8)),.pointer (some (ak po)),.pointer (some (ak x0)),.pointer (some (ak x4)),.pointer (some (ak qH)),.pointer (some (ak iK))]]) λx19=>sh (aq .raw (ak qH)) λ(x20:Value)=>sh (aq li ((ak x0).plus 1)) λ(x21:Int)=>sh (rn n x20 x21) λx22=>sh (aI [.sl,li] (ak iK)) λ(x23:Sl×Int)=>sh (bG (ak x1) [aE x23.1,vi x23.2]) λx24=>sh (aI [.sl,li] (ak x1)) λ(x25:Sl×Int)=>AI (x25.1,x25.2)
abbrev aau (n:Nat):bz:=⟨35,[.agg [.sl,.int .i64]],[.agg [.sl,.int .i64]],λx=>tf n x⟩
abbrev I3:L1:=⟨[0,1,0,1,1,1],[(1,aK),(2,aK),(3,aK),(4,aK),(16,aB),(17,aB)],[],[5]++List.range' 17 7,0,λn x=>jU n x.1 x.2.1 x.2.2.1 x.2.2.2.1 x.2.2.2.2.1 x.2.2.2.2.2⟩
abbrev NV (n:Nat):List jx:=[⟨30,[aB],[aB],λx a=>rn n x a⟩]
theorem U4 (n:Nat):oY TZp (NV n):=.cons (dq (l:=[⟨47,[aK,aK,aK,aK,aK,aK],λa c=>gu n a c.1 c.2.1 c.2.2.1 c.2.2.2.1 c.2.2.2.2.1 c.2.2.2.2.2⟩]) (.cons (λa c=>aT (by kernel_rfl) ((AY n) (a,c.1,c.2.1,c.2.2.1,c.2.2.2.1,c.2.2.2.2.1,c.2.2.2.2.2))) .nil) (λx a=>by kernel_rfl)) .nil
theorem RW (n:Nat):kE TZp Tryz.f35 (I3.e n) I3.ws:=L1.ok Tryz.f35 I3 n C79 (dt:=NV) (hT:=λm _=>⟨.nil,K79 m,(U4 m),.nil,.nil⟩)
theorem Dd (n:Nat):aP TZp (aau n):=bE Tryz.f35 (C79 n) (dl:=NV n) (ll:=[I3.e n]) (hT:=⟨.nil,K79 n,(U4 n),(.cc (RW n) .nil),.nil⟩)
abbrev C80 (n:Nat):List bz:=aau n::C79 n
theorem K80 (n:Nat):aJ TZp (C80 n):=.cons (Dd n) (K79 n)
def ql (n:Nat)(a0:Sl×Int):M ((Sl×Int)×Int):=sh (aO none aj [aE a0.1,vi a0.2]) λx0=>sh (aO none aj [aU,vi 0]) λx1=>sh (aI [.sl,li] (ak x0)) λ(x2:Sl×Int)=>sh (lL n (x2.1,x2.2)) λx3=>if !decide (x3=0) then sh (bG (ak x1) [aU,vi 0]) λx4=>sh (aI [.sl,li] (ak x1)) λ(x5:Sl×Int)=>AI ((x5.1,x5.2),3) else sh (aI [.sl,li] (ak x0)) λ(x4:Sl×Int)=>sh (tf n (x4.1,x4.2)) λx5=>sh (bG (ak x1) [aE x5.1,vi x5.2]) λx6=>sh (aI [.sl,li] (ak x1)) λ(x7:Sl×Int)=>AI ((x7.1,x7.2),0)
abbrev aav (n:Nat):bz:=⟨24,[.agg [.sl,.int .i64]],[.agg [.sl,.int .i64],aB],λx=>ql n x⟩
theorem De (n:Nat):aP TZp (aav n):=bE Tryz.f24 (C80 n) (hT:=.m1 (K80 n))
abbrev C81 (n:Nat):List bz:=aav n::C80 n
theorem K81 (n:Nat):aJ TZp (C81 n):=.cons (De n) (K80 n)
def qm (G:Addr->Sl->Sl->Int->Int->M Unit)(n:Nat)(a0:Addr)(a1 a2:Sl)(a3 a4:Int):M Unit:=if decide (a4<a3) then sh (av a2 a4 1) λx0=>sh (aq li x0) λ(x1:Int)=>sh (aq .sl a0) λ(x2:Sl)=>sh (av x2 x1 1) λx3=>sh (aq li x3) λ(x4:Int)=>sh (av a1 a4 1) λx5=>sh (bG x5 [vi x4]) λx6=>G a0 a1 a2 a3 (i64.wrap (a4+1)) else AI ()
def jV:Nat->Addr->Sl->Sl->Int->Int->M Unit|0=>λ_ _ _ _ _=>AS|n+1=>qm (jV n) n
theorem yb (n:Nat):jV (n+1)=qm (jV n) n:=rfl
def mf (n:Nat)(a0:Sl)(a1:Addr):M Sl:=sh (vc none au [vi 0] (↑a0.len:Int) (↑a0.len:Int)) λx0=>sh (jV n a1 x0 a0 (↑a0.len:Int) 0) λx1=>AI x0
abbrev U5 (n:Nat):bz:=⟨107,[cJ,aK],[cJ],λx=>mf n x.1 x.2⟩
abbrev DV:L1:=⟨[0,1,0,1,1],[(1,aK),(4,cJ),(10,cJ),(11,aB),(12,aB)],[],[5,6]++List.range' 12 13,0,λn x=>jV n x.1 x.2.1 x.2.2.1 x.2.2.2.1 x.2.2.2.2⟩
theorem NW (n:Nat):kE TZp Tryz.f107 (DV.e n) DV.ws:=L1.ok Tryz.f107 DV n C81 (hT:=λm _=>.m1 (K81 m))
theorem sI (n:Nat):aP TZp (U5 n):=bE Tryz.f107 (C81 n) (ll:=[DV.e n]) (hT:=⟨.nil,K81 n,.nil,(.cc (NW n) .nil),.nil⟩)
abbrev C82 (n:Nat):List bz:=U5 n::C81 n
theorem K82 (n:Nat):aJ TZp (C82 n):=.cons (sI n) (K81 n)
def ub (n:Nat)(x:Value)(a0:Sl):M Sl:=if qw pN x then sh (oX [aK] x) λ(c:Addr)=>mf n a0 c else AS
def uc (n:Nat)(x:Value)(a0:Sl):M Sl:=if qw pN x then sh (oX [aK] x) λ(c:Addr)=>mf n a0 c else AS
def sJ (G:Addr->Sl->Addr->Value->Sl->Int->Int->M Unit)(n:Nat)(a0:Addr)(a1:Sl)(a2:Addr)(a3:Value)(a4:Sl)(a5 a6:Int):M Unit:=if decide (a6<a5) then sh (av a4 a6 5) λx0=>sh (aI [li,.str,.bool,.sl,.sl] x0) λ(x1:Int×ByteArray×Bool×Sl×Sl)=>sh (aO none aw [vi 0,.string (ofBytes []),.bool false,aU,aU]) λx2=>sh (bG (ak x2) [vi x1.1,.string x1.2.1,.bool x1.2.2.1,aE x1.2.2.2.1,aE x1.2.2.2.2]) λx3=>sh (av a1 a6 1) λx4=>sh (aq .bool x4) λ(x5:Bool)=>if x5 then sh (aq .sl ((ak x2).plus 3)) λ(x6:Sl)=>sh (aq .sl ((ak x2).plus 4)) λ(x7:Sl)=>sh (kG [some ((ak x2).plus 4)] (ub n a3 x6)) λx8=>sh (uc n a3 x7) λx9=>sh (bG ((ak x2).plus 3) [aE x8]) λx10=>sh (bG ((ak x2).plus 4) [aE x9]) λx11=>sh (aq .sl (a2.plus 0)) λ(x12:Sl)=>sh (aI [li,.str,.bool,.sl,.sl] (ak x2)) λ(x13:Int×ByteArray×Bool×Sl×Sl)=>sh (app false x12 5 aw 1 [vi x13.1,.string x13.2.1,.bool x13.2.2.1,aE x13.2.2.2.1,aE x13.2.2.2.2]) λiK=>sh (bG (a2.plus 0) [aE iK]) λx15=>G a0 a1 a2 a3 a4 a5 (i64.wrap (a6+1)) else G a0 a1 a2 a3 a4 a5 (i64.wrap (a6+1)) else AI ()
def mD:Nat->Addr->Sl->Addr->Value->Sl->Int->Int->M Unit|0=>λ_ _ _ _ _ _ _=>AS|n+1=>sJ (mD n) n
theorem Ab (n:Nat):mD (n+1)=sJ (mD n) n:=rfl
def sK (G:Addr->Addr->Sl->Addr->Int->Sl->Int->Int->M Unit)(n:Nat)(a0 a1:Addr)(a2:Sl)(a3:Addr)(a4:Int)(a5:Sl)(a6 a7:Int):M Unit:=if decide (a7<a6) then sh (av a5 a7 1) λx0=>sh (aq .bool x0) λ(x1:Bool)=>sh (aq .sl a3) λ(x2:Sl)=>sh (av x2 a7 1) λx3=>sh (bG x3 [vi a4]) λx4=>if x1 then G a0 a1 a2 a3 (i64.wrap (a4+1)) a5 a6 (i64.wrap (a7+1)) else G a0 a1 a2 a3 a4 a5 a6 (i64.wrap (a7+1)) else AI ()
def mE:Nat->Addr->Addr->Sl->Addr->Int->Sl->Int->Int->M Unit|0=>λ_ _ _ _ _ _ _ _=>AS|n+1=>sK (mE n) n
theorem Ac (n:Nat):mE (n+1)=sK (mE n) n:=rfl
def wA (n:Nat)(a0:Sl×Int):M (Sl×Int):=sh (aO none aj [aE a0.1,vi a0.2]) λx0=>sh (aO none aj [aU,vi 0]) λx1=>sh (aq .sl ((ak x0).plus 0)) λ(x2:Sl)=>sh (vc none uW [.bool false] (↑x2.len:Int) (↑x2.len:Int)) λx3=>sh (aI [.sl,li] (ak x0)) λ(x4:Sl×Int)=>sh (aq li ((ak x0).plus 1)) λ(x5:Int)=>sh (mA n (x4.1,x4.2) x5 x3) λx6=>sh (aq .sl ((ak x0).plus 0)) λ(x7:Sl)=>sh (vc none au [vi 0] (↑x7.len:Int) (↑x7.len:Int)) λx8=>sh (aO none aR [aU]) λx9=>sh (bG (ak x9) [aE x8]) λx10=>sh (mE n (ak x0) (ak x1) x3 (ak x9) 0 x3 (↑x3.len:Int) 0) λx11=>sh (aq .sl (ak x9)) λ(x12:Sl)=>sh (aq li ((ak x0).plus 1)) λ(x13:Int)=>sh (av x12 x13 1) λiK=>sh (aq li iK) λ(x15:Int)=>sh (aO none aj [aU,vi 0]) λpo=>sh (bG (ak po) [aU,vi x15]) λx17=>sh (aq .sl ((ak x0).plus 0)) λ(qH:Sl)=>sh (mD n (ak x1) x3 (ak po) (Value.func (Fn.func pN) #[] #[.pointer (some (ak x9))]) qH (↑qH.len:Int) 0) λx19=>sh (aI [.sl,li] (ak po)) λ(x20:Sl×Int)=>sh (bG (ak x1) [aE x20.1,vi x20.2]) λx21=>sh (aI [.sl,li] (ak x1)) λ(x22:Sl×Int)=>AI (x22.1,x22.2)
abbrev aaw (n:Nat):bz:=⟨77,[.agg [.sl,.int .i64]],[.agg [.sl,.int .i64]],λx=>wA n x⟩
abbrev I4:L1:=⟨[0,1,0,1,1,1,1,1],[(1,aK),(2,aK),(3,cJ),(4,aK),(5,aB),(25,cJ),(26,aB),(27,aB)],[],[5,6,7]++List.range' 27 13,0,λn x=>mE n x.1 x.2.1 x.2.2.1 x.2.2.2.1 x.2.2.2.2.1 x.2.2.2.2.2.1 x.2.2.2.2.2.2.1 x.2.2.2.2.2.2.2⟩
abbrev I5:L1:=⟨[0,1,0,1,1,1,1,1,1,1,1],[(2,aK),(3,cJ),(8,aK),(9,rW),(48,cJ),(49,aB),(50,aB)],[],[10,11]++List.range' 50 26,2,λn x=>mD n x.1 x.2.1 x.2.2.1 x.2.2.2.1 x.2.2.2.2.1 x.2.2.2.2.2.1 x.2.2.2.2.2.2⟩
abbrev I6 (n:Nat):List jx:=[⟨59,[cJ],[cJ],λx a=>ub n x a⟩, ⟨63,[cJ],[cJ],λx a=>uc n x a⟩]
def NX (i:Nat):Option (List (Nat×List Nat)):=cond (Nat.beq i 18) (some [(0,[]),(1,[]),(4,[]),(5,[]),(2,[]),(6,[]),(3,[6]),(8,[]),(7,[]),(9,[]),(10,[]),(11,[])]) (none)
theorem NY (n:Nat):oY TZp (I6 n):=.cons (dq (l:=[⟨107,[aK],λa c=>mf n a c⟩]) (.cons (λa c=>aT (by kernel_rfl) ((sI n) (a,c))) .nil) (λx a=>by kernel_rfl)) (.cons (dq (l:=[⟨107,[aK],λa c=>mf n a c⟩]) (.cons (λa c=>aT (by kernel_rfl) ((sI n) (a,c))) .nil) (λx a=>by kernel_rfl)) .nil)
theorem RX (n:Nat):kE TZp Tryz.f77 (I5.e n) I5.ws:=L1.ok Tryz.f77 I5 n C82 (dt:=I6) (dr:=NX) (hT:=λm _=>⟨.nil,K82 m,(NY m),.nil,.nil⟩)
theorem RY (n:Nat):kE TZp Tryz.f77 (I4.e n) I4.ws:=L1.ok Tryz.f77 I4 n C82 (dt:=I6) (dr:=NX) (hT:=λm _=>⟨.nil,K82 m,(NY m),.nil,.nil⟩)
theorem Gl (n:Nat):aP TZp (aaw n):=bE Tryz.f77 (C82 n) (dl:=I6 n) (ll:=[I4.e n,I5.e n]) (dr:=NX) (hT:=⟨.nil,K82 n,(NY n),(.cc (RY n) (.cc (RX n) .nil)),.nil⟩)
abbrev C83 (n:Nat):List bz:=aaw n::C82 n
theorem K83 (n:Nat):aJ TZp (C83 n):=.cons (Gl n) (K82 n)
def rq (n:Nat)(a0:Sl×Int)(a1:Int):M ((Sl×Int)×Int):=sh (aO none aj [aE a0.1,vi a0.2]) λx0=>sh (aO none aj [aU,vi 0]) λx1=>sh (aI [.sl,li] (ak x0)) λ(x2:Sl×Int)=>sh (lL n (x2.1,x2.2)) λx3=>if !decide (x3=0) then sh (bG (ak x1) [aU,vi 0]) λx4=>sh (aI [.sl,li] (ak x1)) λ(x5:Sl×Int)=>AI ((x5.1,x5.2),3) else if decide (a1<0) then sh (bG (ak x1) [aU,vi 0]) λx4=>sh (aI [.sl,li] (ak x1)) λ(x5:Sl×Int)=>AI ((x5.1,x5.2),2) else sh (aq .sl ((ak x0).plus 0)) λ(x4:Sl)=>if decide ((↑x4.len:Int)<=a1) then sh (bG (ak x1) [aU,vi 0]) λx5=>sh (aI [.sl,li] (ak x1)) λ(x6:Sl×Int)=>AI ((x6.1,x6.2),2) else sh (aq .sl ((ak x0).plus 0)) λ(x5:Sl)=>sh (wA n (x5,a1)) λx6=>sh (bG (ak x1) [aE x6.1,vi x6.2]) λx7=>sh (aI [.sl,li] (ak x1)) λ(x8:Sl×Int)=>AI ((x8.1,x8.2),0)
abbrev aax (n:Nat):bz:=⟨49,[.agg [.sl,.int .i64],aB],[.agg [.sl,.int .i64],aB],λx=>rq n x.1 x.2⟩
theorem I7 (n:Nat):aP TZp (aax n):=bE Tryz.f49 (C83 n) (hT:=.m1 (K83 n))
abbrev C84 (n:Nat):List bz:=aax n::C83 n
theorem K84 (n:Nat):aJ TZp (C84 n):=.cons (I7 n) (K83 n)
def uJ (n:Nat)(a0:Sl×Int):M (Int×Bool):=sh (aO none aj [aE a0.1,vi a0.2]) λx0=>sh (aI [.sl,li] (ak x0)) λ(x1:Sl×Int)=>sh (lL n (x1.1,x1.2)) λx2=>if !decide (x2=0) then AI (0,false) else sh (aI [.sl,li] (ak x0)) λ(x3:Sl×Int)=>sh (rY n (x3.1,x3.2)) λx4=>AI (x4.1,x4.2)
abbrev U6 (n:Nat):bz:=⟨108,[.agg [.sl,.int .i64]],[aB,jz],λx=>uJ n x⟩
theorem Fc (n:Nat):aP TZp (U6 n):=bE Tryz.f108 (C84 n) (hT:=.m1 (K84 n))
abbrev C85 (n:Nat):List bz:=U6 n::C84 n
theorem K85 (n:Nat):aJ TZp (C85 n):=.cons (Fc n) (K84 n)
end Go.Sh
