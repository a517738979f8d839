
import Derived.Test.YtcdofopdlaebaaaGreatDoorSh0
set_option linter.all false
set_option maxRecDepth 100000
set_option maxHeartbeats 0
namespace Go.Sh
open Go Go.Ago Go.Proofs Go.IntKind
def s6 (n:Nat)(a0:Int)(a1:ByteArray):M Bool:=if decide (a0=0) then AI (mI a1 (ofBytes [])) else if decide (a0=1) then if mI a1 (ofBytes [116,114,117,101]) then AI true else AI (mI a1 (ofBytes [102,97,108,115,101])) else if decide (a0=2) then sh (oD n a1) λx0=>AI x0 else if decide (a0=3) then sh (rL n a1) λx0=>AI x0 else if decide (a0=4) then sh (pW n a1) λx0=>AI x0 else if decide (a0=5) then sh (oM n a1) λx0=>AI (decide (x0.2=0)) else if decide (a0=6) then AI true else if decide (a0=7) then sh (mr n a1) λx0=>if decide (x0.2=0) then AI (mI x0.1 a1) else AI false else if decide (a0=8) then sh (oE n a1) λx0=>AI !decide (x0=0) else AI false
abbrev aal (n:Nat):bz:=⟨21,[aB,oe],[jz],λx=>s6 n x.1 x.2⟩
theorem CX (n:Nat):aP TZp (aal n):=bE Tryz.f21 (C50 n) (hT:=.m1 (K50 n))
abbrev C51 (n:Nat):List bz:=aal n::C50 n
theorem K51 (n:Nat):aJ TZp (C51 n):=.cons (CX n) (K50 n)
def wj (n:Nat)(a0:Int×ByteArray×Bool×Sl×Sl):M Bool:=sh (aO none aw [vi a0.1,.string a0.2.1,.bool a0.2.2.1,aE a0.2.2.2.1,aE a0.2.2.2.2]) λx0=>sh (aq li ((ak x0).plus 0)) λ(x1:Int)=>if decide (x1=9) then sh (aq .str ((ak x0).plus 1)) λ(x2:ByteArray)=>if mI x2 (ofBytes []) then sh (aq .bool ((ak x0).plus 2)) λ(x3:Bool)=>if !x3 then sh (aq .sl ((ak x0).plus 3)) λ(x4:Sl)=>AI (decide ((↑x4.len:Int)=0)) else AI false else AI false else if decide (x1=10) then sh (aq .str ((ak x0).plus 1)) λ(x2:ByteArray)=>if mI x2 (ofBytes []) then sh (aq .sl ((ak x0).plus 3)) λ(x3:Sl)=>sh (aq .sl ((ak x0).plus 4)) λ(x4:Sl)=>AI (decide ((↑x3.len:Int)=(↑x4.len:Int))) else AI false else if decide (x1=11) then sh (aq .str ((ak x0).plus 1)) λ(x2:ByteArray)=>sh (vZ n x2) λx3=>if x3 then sh (aq .bool ((ak x0).plus 2)) λ(x4:Bool)=>if !x4 then sh (aq .sl ((ak x0).plus 3)) λ(x5:Sl)=>if decide ((↑x5.len:Int)=0) then sh (aq .sl ((ak x0).plus 4)) λ(x6:Sl)=>AI (decide ((↑x6.len:Int)=1)) else AI false else AI false else AI false else sh (aq .bool ((ak x0).plus 2)) λ(x2:Bool)=>if !x2 then sh (aq .sl ((ak x0).plus 3)) λ(x3:Sl)=>if decide ((↑x3.len:Int)=0) then sh (aq .sl ((ak x0).plus 4)) λ(x4:Sl)=>if decide ((↑x4.len:Int)=0) then sh (aq li ((ak x0).plus 0)) λ(x5:Int)=>sh (aq .str ((ak x0).plus 1)) λ(x6:ByteArray)=>sh (s6 n x5 x6) λx7=>AI x7 else AI false else AI false else AI false
abbrev aam (n:Nat):bz:=⟨13,[.agg [.int .i64,.str,.bool,.sl,.sl]],[jz],λx=>wj n x⟩
theorem Gi (n:Nat):aP TZp (aam n):=bE Tryz.f13 (C51 n) (hT:=.m1 (K51 n))
abbrev C52 (n:Nat):List bz:=aam n::C51 n
theorem K52 (n:Nat):aJ TZp (C52 n):=.cons (Gi n) (K51 n)
def pX (G:Sl->Addr->Sl->Int->Int->Sl->Int->Int->M Unit)(n:Nat)(a0:Sl)(a1:Addr)(a2:Sl)(a3 a4:Int)(a5:Sl)(a6 a7:Int):M Unit:=if decide (a7<a6) then sh (av a5 a7 1) λx0=>sh (aq li x0) λ(x1:Int)=>sh (av a0 x1 1) λx2=>sh (aq li x2) λ(x3:Int)=>sh (av a0 x1 1) λx4=>sh (bG x4 [vi (i64.wrap (x3+1))]) λx5=>G a0 a1 a2 a3 a4 a5 a6 (i64.wrap (a7+1)) else AI ()
def jO:Nat->Sl->Addr->Sl->Int->Int->Sl->Int->Int->M Unit|0=>λ_ _ _ _ _ _ _ _=>AS|n+1=>pX (jO n) n
theorem xQ (n:Nat):jO (n+1)=pX (jO n) n:=rfl
def pY (G:Sl->Sl->Int->Int->Sl->Int->Int->M Unit)(n:Nat)(a0 a1:Sl)(a2 a3:Int)(a4:Sl)(a5 a6:Int):M Unit:=if decide (a6<a5) then sh (av a4 a6 1) λx0=>sh (aq li x0) λ(x1:Int)=>sh (av a0 x1 1) λx2=>sh (aq li x2) λ(x3:Int)=>sh (av a0 x1 1) λx4=>sh (bG x4 [vi (i64.wrap (x3+1))]) λx5=>G a0 a1 a2 a3 a4 a5 (i64.wrap (a6+1)) else AI ()
def jP:Nat->Sl->Sl->Int->Int->Sl->Int->Int->M Unit|0=>λ_ _ _ _ _ _ _=>AS|n+1=>pY (jP n) n
theorem xR (n:Nat):jP (n+1)=pY (jP n) n:=rfl
def pZ (G:Sl->Sl->Int->Int->M Unit)(n:Nat)(a0 a1:Sl)(a2 a3:Int):M Unit:=if decide (a3<a2) then sh (av a1 a3 5) λx0=>sh (aI [li,.str,.bool,.sl,.sl] x0) λ(x1:Int×ByteArray×Bool×Sl×Sl)=>sh (aO none aw [vi 0,.string (ofBytes []),.bool false,aU,aU]) λx2=>sh (bG (ak x2) [vi x1.1,.string x1.2.1,.bool x1.2.2.1,aE x1.2.2.2.1,aE x1.2.2.2.2]) λx3=>sh (aq .sl ((ak x2).plus 3)) λ(x4:Sl)=>sh (jO n a0 (ak x2) a1 a2 a3 x4 (↑x4.len:Int) 0) λx5=>sh (aq .sl ((ak x2).plus 4)) λ(x6:Sl)=>sh (jP n a0 a1 a2 a3 x6 (↑x6.len:Int) 0) λx7=>G a0 a1 a2 (i64.wrap (a3+1)) else AI ()
def jQ:Nat->Sl->Sl->Int->Int->M Unit|0=>λ_ _ _ _=>AS|n+1=>pZ (jQ n) n
theorem xS (n:Nat):jQ (n+1)=pZ (jQ n) n:=rfl
def s7 (n:Nat)(a0:Sl×Int):M Sl:=sh (aO none aj [aE a0.1,vi a0.2]) λx0=>sh (aq .sl ((ak x0).plus 0)) λ(x1:Sl)=>sh (vc none au [vi 0] (↑x1.len:Int) (↑x1.len:Int)) λx2=>sh (aq li ((ak x0).plus 1)) λ(x3:Int)=>sh (av x2 x3 1) λx4=>sh (aq li x4) λ(x5:Int)=>sh (av x2 x3 1) λx6=>sh (bG x6 [vi (i64.wrap (x5+1))]) λx7=>sh (aq .sl ((ak x0).plus 0)) λ(x8:Sl)=>sh (jQ n x2 x8 (↑x8.len:Int) 0) λx9=>AI x2
abbrev aan (n:Nat):bz:=⟨14,[.agg [.sl,.int .i64]],[cJ],λx=>s7 n x⟩
abbrev Ip:L1:=⟨[0,1,0,1,1,1],[(3,cJ),(22,cJ),(23,aB),(24,aB)],[],[5,7,9]++List.range' 24 33,0,λn x=>jQ n x.1 x.2.1 x.2.2.1 x.2.2.2⟩
abbrev Iq:L1:=⟨[0,1,0,1,0,0,1,1,0,0,1,0,1,1,1],[(3,cJ),(5,aK),(22,cJ),(23,aB),(24,aB),(29,cJ),(30,aB),(31,aB)],[],[7]++List.range' 31 11,2,λn x=>jO n x.1 x.2.1 x.2.2.1 x.2.2.2.1 x.2.2.2.2.1 x.2.2.2.2.2.1 x.2.2.2.2.2.2.1 x.2.2.2.2.2.2.2⟩
abbrev Ir:L1:=⟨[0,1,1,1,0,0,1,1,0,0,1,0,1,1,1],[(3,cJ),(22,cJ),(23,aB),(24,aB),(43,cJ),(44,aB),(45,aB)],[],[9]++List.range' 45 11,4,λn x=>jP n x.1 x.2.1 x.2.2.1 x.2.2.2.1 x.2.2.2.2.1 x.2.2.2.2.2.1 x.2.2.2.2.2.2⟩
theorem Rx (n:Nat):kE TZp Tryz.f14 (Iq.e n) Iq.ws:=L1.ok Tryz.f14 Iq n C52 (hT:=λm _=>.m1 (K52 m))
theorem Ry (n:Nat):kE TZp Tryz.f14 (Ir.e n) Ir.ws:=L1.ok Tryz.f14 Ir n C52 (hT:=λm _=>.m1 (K52 m))
theorem Rz (n:Nat):kE TZp Tryz.f14 (Ip.e n) Ip.ws:=L1.ok Tryz.f14 Ip n C52 (lt:=λn=>[Iq.e n,Ir.e n]) (hT:=λm _=>⟨.nil,K52 m,.nil,(.cc (Rx m) (.cc (Ry m) .nil)),.nil⟩)
theorem CY (n:Nat):aP TZp (aan n):=bE Tryz.f14 (C52 n) (ll:=[Ip.e n]) (hT:=⟨.nil,K52 n,.nil,(.cc (Rz n) .nil),.nil⟩)
abbrev C53 (n:Nat):List bz:=aan n::C52 n
theorem K53 (n:Nat):aJ TZp (C53 n):=.cons (CY n) (K52 n)
def p5 (G:Addr->Sl->Sl->Int->Int->Sl->Int->Int->M Unit)(n:Nat)(a0:Addr)(a1 a2:Sl)(a3 a4:Int)(a5:Sl)(a6 a7:Int):M Unit:=if decide (a7<a6) then sh (av a5 a7 1) λx0=>sh (aq li x0) λ(x1:Int)=>sh (aI [.sl,li] a0) λ(x2:Sl×Int)=>sh (mA n (x2.1,x2.2) x1 a1) λx3=>G a0 a1 a2 a3 a4 a5 a6 (i64.wrap (a7+1)) else AI ()
def jR:Nat->Addr->Sl->Sl->Int->Int->Sl->Int->Int->M Unit|0=>λ_ _ _ _ _ _ _ _=>AS|n+1=>p5 (jR n) n
theorem xU (n:Nat):jR (n+1)=p5 (jR n) n:=rfl
def p6 (G:Addr->Sl->Sl->Int->Int->M Unit)(n:Nat)(a0:Addr)(a1 a2:Sl)(a3 a4:Int):M Unit:=if decide (a4<a3) then sh (av a2 a4 5) λx0=>sh (aI [li,.str,.bool,.sl,.sl] x0) λ(x1:Int×ByteArray×Bool×Sl×Sl)=>sh (aO none aw [vi 0,.string (ofBytes []),.bool false,aU,aU]) λx2=>sh (bG (ak x2) [vi x1.1,.string x1.2.1,.bool x1.2.2.1,aE x1.2.2.2.1,aE x1.2.2.2.2]) λx3=>sh (aq .sl ((ak x2).plus 3)) λ(x4:Sl)=>sh (jR n a0 a1 a2 a3 a4 x4 (↑x4.len:Int) 0) λx5=>G a0 a1 a2 a3 (i64.wrap (a4+1)) else AI ()
def jS:Nat->Addr->Sl->Sl->Int->Int->M Unit|0=>λ_ _ _ _ _=>AS|n+1=>p6 (jS n) n
theorem xV (n:Nat):jS (n+1)=p6 (jS n) n:=rfl
def s9 (n:Nat)(a0:Sl×Int):M Sl:=sh (aO none aj [aE a0.1,vi a0.2]) λx0=>sh (aq .sl ((ak x0).plus 0)) λ(x1:Sl)=>sh (vc none uW [.bool false] (↑x1.len:Int) (↑x1.len:Int)) λx2=>sh (aq .sl ((ak x0).plus 0)) λ(x3:Sl)=>sh (jS n (ak x0) x2 x3 (↑x3.len:Int) 0) λx4=>AI x2
abbrev aao (n:Nat):bz:=⟨15,[.agg [.sl,.int .i64]],[cJ],λx=>s9 n x⟩
abbrev It:L1:=⟨[0,1,0,1,1],[(1,aK),(3,cJ),(13,cJ),(14,aB),(15,aB)],[],[5,7]++List.range' 15 17,0,λn x=>jS n x.1 x.2.1 x.2.2.1 x.2.2.2.1 x.2.2.2.2⟩
abbrev Iu:L1:=⟨[0,1,1,0,0,1,1,0,0,1,0,1,1],[(1,aK),(3,cJ),(13,cJ),(14,aB),(15,aB),(20,cJ),(21,aB),(22,aB)],[],[7]++List.range' 22 9,2,λn x=>jR n x.1 x.2.1 x.2.2.1 x.2.2.2.1 x.2.2.2.2.1 x.2.2.2.2.2.1 x.2.2.2.2.2.2.1 x.2.2.2.2.2.2.2⟩
theorem RA (n:Nat):kE TZp Tryz.f15 (Iu.e n) Iu.ws:=L1.ok Tryz.f15 Iu n C53 (hT:=λm _=>.m1 (K53 m))
theorem RB (n:Nat):kE TZp Tryz.f15 (It.e n) It.ws:=L1.ok Tryz.f15 It n C53 (lt:=λn=>[Iu.e n]) (hT:=λm _=>⟨.nil,K53 m,.nil,(.cc (RA m) .nil),.nil⟩)
theorem CZ (n:Nat):aP TZp (aao n):=bE Tryz.f15 (C53 n) (ll:=[It.e n]) (hT:=⟨.nil,K53 n,.nil,(.cc (RB n) .nil),.nil⟩)
abbrev C54 (n:Nat):List bz:=aao n::C53 n
theorem K54 (n:Nat):aJ TZp (C54 n):=.cons (CZ n) (K53 n)
structure bH where
 gR:Addr->Addr->Addr->Int->Int->Bool->Sl->Int->Int->Sl->Int->Int->M Bool
 kj:Addr->Addr->Addr->Sl->Int->Int->M (Unit⊕Bool)
 gl:Addr->Addr->Addr->Int->Int->M (Unit⊕Bool)
 iA:(Sl×Int)->Int->Int->M Bool
def sB (G:bH)(n:Nat)(a0 a1 a2:Addr)(a3 a4:Int)(a5:Bool)(a6:Sl)(a7 a8:Int)(a9:Sl)(a10 a11:Int):M Bool:=if decide (a11<a10) then sh (av a9 a11 1) λx0=>sh (aq li x0) λ(x1:Int)=>if a5 then G.gR a0 a1 a2 a3 a4 true a6 a7 a8 a9 a10 (i64.wrap (a11+1)) else sh (aI [.sl,li] a0) λ(x2:Sl×Int)=>sh (G.iA (x2.1,x2.2) a4 x1) λx3=>if x3 then sh (aI [.sl,li] a0) λ(x4:Sl×Int)=>sh (aq .sl (a1.plus 4)) λ(x5:Sl)=>sh (av x5 a3 1) λx6=>sh (aq li x6) λ(x7:Int)=>sh (aq .sl (a2.plus 4)) λ(x8:Sl)=>sh (av x8 a11 1) λx9=>sh (aq li x9) λ(x10:Int)=>sh (G.iA (x4.1,x4.2) x7 x10) λx11=>G.gR a0 a1 a2 a3 a4 x11 a6 a7 a8 a9 a10 (i64.wrap (a11+1)) else G.gR a0 a1 a2 a3 a4 false a6 a7 a8 a9 a10 (i64.wrap (a11+1)) else AI a5
def sC (G:bH)(n:Nat)(a0 a1 a2:Addr)(a3:Sl)(a4 a5:Int):M (Unit⊕Bool):=if decide (a5<a4) then sh (av a3 a5 1) λx0=>sh (aq li x0) λ(x1:Int)=>sh (aq .sl (a2.plus 3)) λ(x2:Sl)=>sh (G.gR a0 a1 a2 a5 x1 false a3 a4 a5 x2 (↑x2.len:Int) 0) λx3=>if !x3 then AI (Sum.inr false) else G.kj a0 a1 a2 a3 a4 (i64.wrap (a5+1)) else AI (Sum.inl ())
def sD (G:bH)(n:Nat)(a0 a1 a2:Addr)(a3 a4:Int):M (Unit⊕Bool):=if decide (a4<a3) then sh (aq li (a1.plus 0)) λ(x0:Int)=>if decide (x0=10) then sh (aI [.sl,li] a0) λ(x1:Sl×Int)=>sh (aq .sl (a1.plus 3)) λ(x2:Sl)=>sh (av x2 a4 1) λx3=>sh (aq li x3) λ(x4:Int)=>sh (aq .sl (a2.plus 3)) λ(x5:Sl)=>sh (av x5 a4 1) λx6=>sh (aq li x6) λ(x7:Int)=>sh (G.iA (x1.1,x1.2) x4 x7) λx8=>if !x8 then AI (Sum.inr false) else sh (aI [.sl,li] a0) λ(x9:Sl×Int)=>sh (aq .sl (a1.plus 4)) λ(x10:Sl)=>sh (av x10 a4 1) λx11=>sh (aq li x11) λ(x12:Int)=>sh (aq .sl (a2.plus 4)) λ(x13:Sl)=>sh (av x13 a4 1) λiK=>sh (aq li iK) λ(x15:Int)=>sh (G.iA (x9.1,x9.2) x12 x15) λpo=>if !po then AI (Sum.inr false) else G.gl a0 a1 a2 a3 (i64.wrap (a4+1)) else sh (aI [.sl,li] a0) λ(x1:Sl×Int)=>sh (aq .sl (a1.plus 4)) λ(x2:Sl)=>sh (av x2 a4 1) λx3=>sh (aq li x3) λ(x4:Int)=>sh (aq .sl (a2.plus 4)) λ(x5:Sl)=>sh (av x5 a4 1) λx6=>sh (aq li x6) λ(x7:Int)=>sh (G.iA (x1.1,x1.2) x4 x7) λx8=>if !x8 then AI (Sum.inr false) else G.gl a0 a1 a2 a3 (i64.wrap (a4+1)) else AI (Sum.inl ())
def sE (G:bH)(n:Nat)(a0 a1 a2:Addr):M Bool:=sh (aq li (a1.plus 0)) λ(x0:Int)=>if decide (x0=10) then sh (aq .bool (a1.plus 2)) λ(x1:Bool)=>if !x1 then sh (aq .sl (a1.plus 3)) λ(x2:Sl)=>sh (G.kj a0 a1 a2 x2 (↑x2.len:Int) 0) (cw (λx3=>AI true) (λx3=>AI x3)) else sh (aq .sl (a1.plus 4)) λ(x2:Sl)=>sh (G.gl a0 a1 a2 (↑x2.len:Int) 0) (cw (λx3=>AI true) (λx3=>AI x3)) else sh (aq .sl (a1.plus 4)) λ(x1:Sl)=>sh (G.gl a0 a1 a2 (↑x1.len:Int) 0) (cw (λx2=>AI true) (λx2=>AI x2))
def wm (G:bH)(n:Nat)(a0:Sl×Int)(a1 a2:Int):M Bool:=sh (aO none aj [aE a0.1,vi a0.2]) λx0=>sh (eS 14) λx1=>sh (aq .sl ((ak x0).plus 0)) λ(x2:Sl)=>sh (av x2 a1 5) λx3=>sh (aI [li,.str,.bool,.sl,.sl] x3) λ(x4:Int×ByteArray×Bool×Sl×Sl)=>sh (aq .sl ((ak x0).plus 0)) λ(x5:Sl)=>sh (av x5 a2 5) λx6=>sh (aI [li,.str,.bool,.sl,.sl] x6) λ(x7:Int×ByteArray×Bool×Sl×Sl)=>sh (aO (some (x1+10)) aw [vi 0,.string (ofBytes []),.bool false,aU,aU]) λx8=>sh (aO (some (x1+11)) aw [vi 0,.string (ofBytes []),.bool false,aU,aU]) λx9=>sh (kG [some ((ak x0).plus 0),some x6] (bG (ak x8) [vi x4.1,.string x4.2.1,.bool x4.2.2.1,aE x4.2.2.2.1,aE x4.2.2.2.2])) λx10=>sh (bG (ak x9) [vi x7.1,.string x7.2.1,.bool x7.2.2.1,aE x7.2.2.2.1,aE x7.2.2.2.2]) λx11=>sh (aq li ((ak x8).plus 0)) λ(x12:Int)=>sh (aq li ((ak x9).plus 0)) λ(x13:Int)=>if !decide (x12=x13) then AI false else sh (aq .str ((ak x8).plus 1)) λ(iK:ByteArray)=>sh (aq .str ((ak x9).plus 1)) λ(x15:ByteArray)=>if !mI iK x15 then AI false else sh (aq .bool ((ak x8).plus 2)) λ(po:Bool)=>sh (aq .bool ((ak x9).plus 2)) λ(x17:Bool)=>if !po==x17 then AI false else sh (aq .sl ((ak x8).plus 4)) λ(qH:Sl)=>sh (aq .sl ((ak x9).plus 4)) λ(x19:Sl)=>if !decide ((↑qH.len:Int)=(↑x19.len:Int)) then AI false else sE G n (ak x0) (ak x8) (ak x9)
def bH.at:Nat->bH|0=>⟨λ_ _ _ _ _ _ _ _ _ _ _ _=>AS,λ_ _ _ _ _ _=>AS,λ_ _ _ _ _=>AS,λ_ _ _=>AS⟩|n+1=>⟨sB (bH.at n) n,sC (bH.at n) n,sD (bH.at n) n,wm (bH.at n) n⟩
def gR (n:Nat):=(bH.at n).gR
theorem zS (n:Nat):gR (n+1)=sB (bH.at n) n:=rfl
def kj (n:Nat):=(bH.at n).kj
theorem zT (n:Nat):kj (n+1)=sC (bH.at n) n:=rfl
def gl (n:Nat):=(bH.at n).gl
theorem zU (n:Nat):gl (n+1)=sD (bH.at n) n:=rfl
def iA (n:Nat):=(bH.at n).iA
theorem Da (n:Nat):iA (n+1)=wm (bH.at n) n:=rfl
def Gj (n:Nat):=sE (bH.at n) n
abbrev Uy (n:Nat):bz:=⟨22,[.agg [.sl,.int .i64],aB,aB],[jz],λx=>iA n x.1 x.2.1 x.2.2⟩
abbrev Iv:L2:=⟨[0,1,0,0,1,0,1,1,1],[(3,aK),(7,aK),(8,aK),(62,cJ),(63,aB),(64,aB)],[],[(6,jz)],[6]++List.range' 9 5++List.range' 64 38,0,.ret,λn x=>kj n x.1 x.2.1 x.2.2.1 x.2.2.2.1 x.2.2.2.2.1 x.2.2.2.2.2⟩
abbrev Iw:L1:=⟨[0,1,0,1,1,0,0,1,1,0,0,1,0,0,1,0,1,1,1],[(3,aK),(7,aK),(8,aK),(9,aB),(10,aB),(11,jz),(62,cJ),(63,aB),(64,aB),(70,cJ),(71,aB),(72,aB)],[(11,jz)],[11,12,13]++List.range' 72 27,2,λn x=>gR n x.1 x.2.1 x.2.2.1 x.2.2.2.1 x.2.2.2.2.1 x.2.2.2.2.2.1 x.2.2.2.2.2.2.1 x.2.2.2.2.2.2.2.1 x.2.2.2.2.2.2.2.2.1 x.2.2.2.2.2.2.2.2.2.1 x.2.2.2.2.2.2.2.2.2.2.1 x.2.2.2.2.2.2.2.2.2.2.2⟩
abbrev Ix:L2:=⟨[0,1,0,1,1,1,1],[(3,aK),(7,aK),(8,aK),(104,aB),(105,aB)],[],[(6,jz)],[6,14]++List.range' 105 37,4,.ret,λn x=>gl n x.1 x.2.1 x.2.2.1 x.2.2.2.1 x.2.2.2.2⟩
abbrev Uz (n:Nat):List bz:=Uy n::C54 n
def Iy (i:Nat):Option (List (Nat×List Nat)):=cond (Nat.beq i 1) (some [(0,[]),(2,[]),(5,[]),(7,[]),(1,[]),(3,[]),(4,[]),(6,[]),(8,[]),(9,[]),(10,[]),(11,[]),(12,[6,9]),(13,[])]) (cond (Nat.beq i 12) (some [(0,[]),(1,[]),(3,[]),(4,[]),(2,[]),(5,[]),(6,[]),(8,[]),(10,[]),(13,[]),(15,[]),(7,[]),(9,[]),(11,[]),(12,[]),(14,[]),(16,[]),(17,[]),(18,[]),(19,[]),(20,[]),(21,[])]) (cond (Nat.beq i 21) (some [(0,[]),(1,[]),(2,[]),(3,[]),(5,[]),(7,[]),(10,[]),(12,[]),(4,[]),(6,[]),(8,[]),(9,[]),(11,[]),(13,[]),(14,[]),(15,[]),(16,[]),(17,[]),(18,[]),(20,[]),(22,[]),(25,[]),(27,[]),(19,[]),(21,[]),(23,[]),(24,[]),(26,[]),(28,[]),(29,[]),(30,[]),(31,[]),(32,[])]) (none)))
abbrev abN (n:Nat):List (gj Bool):=[⟨[0,0,1,1,1],[.code [1,0,1,1,1],.code [1,1,1,1]],[(3,aK),(7,aK),(8,aK)],λx=>Gj n x.1 x.2.1 x.2.2⟩]
def nX (n:Nat):Prop:=aP TZp (Uy n)
theorem Lt (n:Nat)(H:nX n):aJ TZp (Uz n):=.cons H (K54 n)
theorem RC (n:Nat)(H:∀m,m<n->nX m):kE TZp Tryz.f22 (Iw.e n) Iw.ws:=L1.ok Tryz.f22 Iw n Uz (dr:=Iy) (hT:=λm hm=>.m1 (Lt m (H m hm)))
theorem RD (n:Nat)(H:∀m,m<n->nX m):kE TZp Tryz.f22 (Iv.e n) Iv.ws:=L2.ok Tryz.f22 Iv n Uz (lt:=λn=>[Iw.e n]) (dr:=Iy) (hT:=λm hm=>⟨.nil,Lt m (H m hm),.nil,(.cc (RC m (λk hk=>H k (afu hk hm))) .nil),.nil⟩)
theorem RE (n:Nat)(H:∀m,m<n->nX m):kE TZp Tryz.f22 (Ix.e n) Ix.ws:=L2.ok Tryz.f22 Ix n Uz (dr:=Iy) (hT:=λm hm=>.m1 (Lt m (H m hm)))
theorem zV (n:Nat)(H:∀m,m<n+1->nX m):aP TZp (Uy (n+1)):=bE Tryz.f22 (Uz n) (ll:=[Iv.e n,Ix.e n]) (dr:=Iy) (js:=abN n) (hT:=⟨.nil,Lt n (H n (aar n)),.nil,(.cc (RD n (λk hk=>H k (abX hk))) (.cc (RE n (λk hk=>H k (abX hk))) .nil)),(.cc .nil)⟩)
theorem BQ:∀n m,m<n->nX m:=by
 intro n
 induction n with
 |zero=>intro m hm;exact absurd hm (afv m)
 |succ n ih=>
  intro m hm;cases m with
  |zero=>exact fX (fn:=Tryz.f22) (by kernel_rfl) (by kernel_rfl) (by kernel_rfl) (λ_=>rfl)
  |succ k=>exact zV k λm hm=>ih m (by omega)
theorem K55 (n:Nat):aJ TZp (Uz n):=Lt n (BQ (n+1) n (aar n))
def qU (G:Addr->Option Nat->Int->Addr->Sl->Int->Int->Sl->Int->Int->Sl->Int->Int->M (Unit⊕Bool))(n:Nat)(a0:Addr)(a1:Option Nat)(a2:Int)(a3:Addr)(a4:Sl)(a5 a6:Int)(a7:Sl)(a8 a9:Int)(a10:Sl)(a11 a12:Int):M (Unit⊕Bool):=if decide (a12<a11) then sh (av a10 a12 1) λx0=>sh (aq li x0) λ(x1:Int)=>sh (aI [.sl,li] a0) λ(x2:Sl×Int)=>sh (iA n (x2.1,x2.2) a2 x1) λx3=>if x3 then AI (Sum.inr true) else G a0 a1 a2 a3 a4 a5 a6 a7 a8 a9 a10 a11 (i64.wrap (a12+1)) else AI (Sum.inl ())
def kP:Nat->Addr->Option Nat->Int->Addr->Sl->Int->Int->Sl->Int->Int->Sl->Int->Int->M (Unit⊕Bool)|0=>λ_ _ _ _ _ _ _ _ _ _ _ _ _=>AS|n+1=>qU (kP n) n
theorem yR (n:Nat):kP (n+1)=qU (kP n) n:=rfl
def qV (G:Addr->Option Nat->Sl->Int->Int->Sl->Int->Int->M (Unit⊕Bool))(n:Nat)(a0:Addr)(a1:Option Nat)(a2:Sl)(a3 a4:Int)(a5:Sl)(a6 a7:Int):M (Unit⊕Bool):=if decide (a7<a6) then sh (av a5 a7 1) λx0=>sh (aq li x0) λ(x1:Int)=>sh (eS 15) λx2=>sh (aq .sl (a0.plus 0)) λ(x3:Sl)=>sh (av x3 x1 5) λx4=>sh (aq li (x4.plus 0)) λ(x5:Int)=>sh (aq .sl (a0.plus 0)) λ(x6:Sl)=>sh (av x6 x1 5) λx7=>sh (aq .str (x7.plus 1)) λ(x8:ByteArray)=>sh (aO (some (x2+13)) aC [vi 0,.string (ofBytes [])]) λx9=>sh (bG (ak x9) [vi x5,.string x8]) λx10=>sh (aI [li,.str] (ak x9)) λ(x11:Int×ByteArray)=>sh (wN aC (Ty.one .sl) mX a1 (Value.agg #[vi x11.1,.string x11.2])) λ(x12:Bool×Sl)=>sh (kP n a0 a1 x1 (ak x9) a2 a3 a4 a5 a6 a7 x12.2 (↑x12.2.len:Int) 0) (cw (λx13=>sh (aI [li,.str] (ak x9)) λ(iK:Int×ByteArray)=>sh (vH aC (Ty.one .sl) mX a1 (Value.agg #[vi iK.1,.string iK.2])) λx15=>sh (app false x15.1 1 au 1 [vi x1]) λpo=>sh (vI a1 (↑x15.2:Int) (aE po)) λx17=>G a0 a1 a2 a3 a4 a5 a6 (i64.wrap (a7+1))) (λx13=>AI (Sum.inr x13))) else AI (Sum.inl ())
def ji:Nat->Addr->Option Nat->Sl->Int->Int->Sl->Int->Int->M (Unit⊕Bool)|0=>λ_ _ _ _ _ _ _ _=>AS|n+1=>qV (ji n) n
theorem yS (n:Nat):ji (n+1)=qV (ji n) n:=rfl
def qW (G:Addr->Sl->Int->Int->M (Unit⊕Bool))(n:Nat)(a0:Addr)(a1:Sl)(a2 a3:Int):M (Unit⊕Bool):=if decide (a3<a2) then sh (av a1 a3 5) λx0=>sh (aI [li,.str,.bool,.sl,.sl] x0) λ(x1:Int×ByteArray×Bool×Sl×Sl)=>sh (aO none aw [vi 0,.string (ofBytes []),.bool false,aU,aU]) λx2=>sh (bG (ak x2) [vi x1.1,.string x1.2.1,.bool x1.2.2.1,aE x1.2.2.2.1,aE x1.2.2.2.2]) λx3=>sh (At aC) λx4=>sh (aq .sl ((ak x2).plus 3)) λ(x5:Sl)=>sh (ji n a0 (some x4) a1 a2 a3 x5 (↑x5.len:Int) 0) (cw (λx6=>G a0 a1 a2 (i64.wrap (a3+1))) (λx6=>AI (Sum.inr x6))) else AI (Sum.inl ())
def jj:Nat->Addr->Sl->Int->Int->M (Unit⊕Bool)|0=>λ_ _ _ _=>AS|n+1=>qW (jj n) n
theorem yT (n:Nat):jj (n+1)=qW (jj n) n:=rfl
def uG (n:Nat)(a0:Sl×Int):M Bool:=sh (aO none aj [aE a0.1,vi a0.2]) λx0=>sh (aq .sl ((ak x0).plus 0)) λ(x1:Sl)=>sh (jj n (ak x0) x1 (↑x1.len:Int) 0) (cw (λx2=>AI false) (λx2=>AI x2))
abbrev aap (n:Nat):bz:=⟨16,[.agg [.sl,.int .i64]],[jz],λx=>uG n x⟩
abbrev Iz:L2:=⟨[0,1,0,1],[(1,aK),(12,cJ),(13,aB),(14,aB)],[],[(2,jz)],[2,4,5,7,8,10]++List.range' 14 48,0,.ret,λn x=>jj n x.1 x.2.1 x.2.2.1 x.2.2.2⟩
abbrev IA:L2:=⟨[0,1,1,1,0,0,1,1,0,0,1,0,1],[(1,aK),(5,tyM),(12,cJ),(13,aB),(14,aB),(20,cJ),(21,aB),(22,aB)],[],[(2,jz)],[2,7,8,10]++List.range' 22 39,2,.ret,λn x=>ji n x.1 x.2.1 x.2.2.1 x.2.2.2.1 x.2.2.2.2.1 x.2.2.2.2.2.1 x.2.2.2.2.2.2.1 x.2.2.2.2.2.2.2⟩
abbrev IB:L2:=⟨[0,1,0,1,1,0,0,1,1,0,0,1,1,1,0,0,1,1,0,0,1,0,1],[(1,aK),(5,tyM),(7,aB),(8,aK),(12,cJ),(13,aB),(14,aB),(20,cJ),(21,aB),(22,aB),(41,cJ),(42,aB),(43,aB)],[],[(2,jz)],[2,10]++List.range' 43 9,4,.ret,λn x=>kP n x.1 x.2.1 x.2.2.1 x.2.2.2.1 x.2.2.2.2.1 x.2.2.2.2.2.1 x.2.2.2.2.2.2.1 x.2.2.2.2.2.2.2.1 x.2.2.2.2.2.2.2.2.1 x.2.2.2.2.2.2.2.2.2.1 x.2.2.2.2.2.2.2.2.2.2.1 x.2.2.2.2.2.2.2.2.2.2.2.1 x.2.2.2.2.2.2.2.2.2.2.2.2⟩
def IC (i:Nat):Option (List (Nat×List Nat)):=cond (Nat.beq i 8) (some [(0,[]),(2,[]),(6,[]),(8,[]),(1,[]),(3,[]),(4,[]),(5,[]),(7,[]),(9,[]),(10,[]),(11,[]),(12,[]),(13,[]),(14,[])]) (none)
theorem RF (n:Nat):kE TZp Tryz.f16 (IB.e n) IB.ws:=L2.ok Tryz.f16 IB n Uz (dr:=IC) (hT:=λm _=>.m1 (K55 m))
theorem RG (n:Nat):kE TZp Tryz.f16 (IA.e n) IA.ws:=L2.ok Tryz.f16 IA n Uz (lt:=λn=>[IB.e n]) (dr:=IC) (hT:=λm _=>⟨.nil,K55 m,.nil,(.cc (RF m) .nil),.nil⟩)
theorem RH (n:Nat):kE TZp Tryz.f16 (Iz.e n) Iz.ws:=L2.ok Tryz.f16 Iz n Uz (lt:=λn=>[IA.e n]) (dr:=IC) (hT:=λm _=>⟨.nil,K55 m,.nil,(.cc (RG m) .nil),.nil⟩)
theorem E6 (n:Nat):aP TZp (aap n):=bE Tryz.f16 (Uz n) (ll:=[Iz.e n]) (dr:=IC) (hT:=⟨.nil,K55 n,.nil,(.cc (RH n) .nil),.nil⟩)
abbrev C56 (n:Nat):List bz:=aap n::Uz n
theorem K56 (n:Nat):aJ TZp (C56 n):=.cons (E6 n) (K55 n)
structure aA where
 dZ:Addr->Addr->Addr->Addr->Addr->Int->M Int
 ea:Addr->Addr->Addr->Addr->Addr->Addr->Addr->Value->Sl->Int->Int->M Unit
 ef:Addr->Addr->Addr->Addr->Addr->Addr->Addr->Addr->Value->Sl->Int->Int->M Unit
 dO:Int->Addr->Addr->Addr->Addr->Addr->Addr->Addr->Addr->Addr->M Unit
 dI:Int->Addr->Addr->Addr->Addr->Addr->M Unit
def fH (G:aA)(n:Nat)(x:Value)(a0:Int):M Unit:=if qw iR x then sh (oX [aK,aK,aK,aK,aK] x) λ(c:Addr×Addr×Addr×Addr×Addr)=>G.dI a0 c.1 c.2.1 c.2.2.1 c.2.2.2.1 c.2.2.2.2 else AS
abbrev ko:=fH
def jk (G:aA)(n:Nat)(x:Value)(a0:Int):M Unit:=if qw jY x then sh (oX [aK,aK,aK,aK,aK,aK,aK,aK,aK] x) λ(c:Addr×Addr×Addr×Addr×Addr×Addr×Addr×Addr×Addr)=>G.dO a0 c.1 c.2.1 c.2.2.1 c.2.2.2.1 c.2.2.2.2.1 c.2.2.2.2.2.1 c.2.2.2.2.2.2.1 c.2.2.2.2.2.2.2.1 c.2.2.2.2.2.2.2.2 else AS
def kQ (G:aA)(n:Nat)(a0 a1 a2 a3 a4:Addr)(a5:Int):M Int:=sh (aq .sl a0) λ(x0:Sl)=>sh (aq .sl a0) λ(x1:Sl)=>sh (av x0 (i64.wrap ((↑x1.len:Int)-1)) 1) λx2=>sh (aq li x2) λ(x3:Int)=>sh (aq .sl a0) λ(x4:Sl)=>sh (aq .sl a0) λ(x5:Sl)=>sh (kJ x4 0 (i64.wrap ((↑x5.len:Int)-1)) au 1) λx6=>sh (bG a0 [aE x6]) λx7=>sh (aq .sl a1) λ(x8:Sl)=>sh (av x8 x3 1) λx9=>sh (bG x9 [.bool false]) λx10=>sh (aq .sl a3) λ(x11:Sl)=>sh (aq .sl a2) λ(x12:Sl)=>sh (av x11 x3 1) λx13=>sh (bG x13 [vi (↑x12.len:Int)]) λiK=>sh (aq li a4) λ(x15:Int)=>if decide (x3=x15) then AI (i64.wrap (a5+1)) else G.dZ a0 a1 a2 a3 a4 (i64.wrap (a5+1))
def kR (G:aA)(n:Nat)(a0 a1 a2 a3 a4 a5 a6:Addr)(a7:Value)(a8:Sl)(a9 a10:Int):M Unit:=if decide (a10<a9) then sh (av a8 a10 1) λx0=>sh (aq li x0) λ(x1:Int)=>sh (ko G n a7 x1) λx2=>G.ea a0 a1 a2 a3 a4 a5 a6 a7 a8 a9 (i64.wrap (a10+1)) else AI ()
def kS (G:aA)(n:Nat)(a0 a1 a2 a3 a4 a5 a6 a7:Addr)(a8:Value)(a9:Sl)(a10 a11:Int):M Unit:=if decide (a11<a10) then sh (av a9 a11 1) λx0=>sh (aq li x0) λ(x1:Int)=>sh (fH G n a8 x1) λx2=>G.ef a0 a1 a2 a3 a4 a5 a6 a7 a8 a9 a10 (i64.wrap (a11+1)) else AI ()
def nE (G:aA)(n:Nat)(a0:Int)(a1 a2 a3 a4 a5 a6 a7 a8 a9:Addr):M Unit:=sh (aO none au [vi a0]) λx0=>sh (aq li a1) λ(x1:Int)=>sh (bG a1 [vi (i64.wrap (x1+1))]) λx2=>sh (aq .sl a2) λ(x3:Sl)=>sh (aq li (ak x0)) λ(x4:Int)=>sh (aq .sl a3) λ(x5:Sl)=>sh (aq li (ak x0)) λ(x6:Int)=>sh (aq li a1) λ(x7:Int)=>sh (av x3 x4 1) λx8=>sh (aq li a1) λ(x9:Int)=>sh (kG [some a3,some (ak x0),some a1] (bG x8 [vi x7])) λx10=>sh (av x5 x6 1) λx11=>sh (bG x11 [vi x9]) λx12=>sh (aq .sl a4) λ(x13:Sl)=>sh (aq li (ak x0)) λ(iK:Int)=>sh (app false x13 1 au 1 [vi iK]) λx15=>sh (bG a4 [aE x15]) λpo=>sh (aq .sl a5) λ(x17:Sl)=>sh (aq li (ak x0)) λ(qH:Int)=>sh (av x17 qH 1) λx19=>sh (bG x19 [.bool true]) λx20=>sh (aq .sl (a7.plus 0)) λ(x21:Sl)=>sh (aq li (ak x0)) λ(x22:Int)=>sh (av x21 x22 5) λx23=>sh (aq .sl (x23.plus 3)) λ(x24:Sl)=>sh (G.ef a2 a3 a4 a5 a7 a8 a9 (ak x0) (Value.func (Fn.func iR) #[] #[.pointer (some a2),.pointer (some a6),.pointer (some a3),.pointer (some (ak x0)),.pointer (some a5)]) x24 (↑x24.len:Int) 0) λx25=>sh (aq .sl (a7.plus 0)) λ(x26:Sl)=>sh (aq li (ak x0)) λ(x27:Int)=>sh (av x26 x27 5) λx28=>sh (aq .sl (x28.plus 4)) λ(x29:Sl)=>sh (G.ea a2 a3 a4 a5 a8 a9 (ak x0) (Value.func (Fn.func iR) #[] #[.pointer (some a2),.pointer (some a6),.pointer (some a3),.pointer (some (ak x0)),.pointer (some a5)]) x29 (↑x29.len:Int) 0) λx30=>sh (aq .sl a3) λ(x31:Sl)=>sh (aq li (ak x0)) λ(x32:Int)=>sh (av x31 x32 1) λx33=>sh (aq li x33) λ(x34:Int)=>sh (aq .sl a2) λ(x35:Sl)=>sh (aq li (ak x0)) λ(x36:Int)=>sh (av x35 x36 1) λx37=>sh (aq li x37) λ(x38:Int)=>if !decide (x34=x38) then AI () else sh (G.dZ a4 a5 a8 a9 (ak x0) 0) λx39=>sh (aq .sl a8) λ(x40:Sl)=>sh (app false x40 1 au 1 [vi x39]) λx41=>sh (bG a8 [aE x41]) λx42=>AI ()
def lW (G:aA)(n:Nat)(a0:Int)(a1 a2 a3 a4 a5:Addr):M Unit:=sh (aq .sl a1) λ(x0:Sl)=>sh (av x0 a0 1) λx1=>sh (aq li x1) λ(x2:Int)=>if decide (x2=0) then sh (aq .raw a2) λ(x3:Value)=>sh (jk G n x3 a0) λx4=>sh (aq .sl a3) λ(x5:Sl)=>sh (aq li a4) λ(x6:Int)=>sh (aq .sl a3) λ(x7:Sl)=>sh (aq li a4) λ(x8:Int)=>sh (av x7 x8 1) λx9=>sh (aq li x9) λ(x10:Int)=>sh (aq .sl a3) λ(x11:Sl)=>sh (av x11 a0 1) λx12=>sh (aq li x12) λ(x13:Int)=>sh (av x5 x6 1) λiK=>sh (bG iK [vi (if x13<x10 then x13 else x10)]) λx15=>AI () else sh (aq .sl a5) λ(x3:Sl)=>sh (av x3 a0 1) λx4=>sh (aq .bool x4) λ(x5:Bool)=>if x5 then sh (aq .sl a3) λ(x6:Sl)=>sh (aq li a4) λ(x7:Int)=>sh (aq .sl a3) λ(x8:Sl)=>sh (aq li a4) λ(x9:Int)=>sh (av x8 x9 1) λx10=>sh (aq li x10) λ(x11:Int)=>sh (aq .sl a1) λ(x12:Sl)=>sh (av x12 a0 1) λx13=>sh (aq li x13) λ(iK:Int)=>sh (av x6 x7 1) λx15=>sh (bG x15 [vi (if iK<x11 then iK else x11)]) λpo=>AI () else AI ()
def aA.at:Nat->aA|0=>⟨λ_ _ _ _ _ _=>AS,λ_ _ _ _ _ _ _ _ _ _ _=>AS,λ_ _ _ _ _ _ _ _ _ _ _ _=>AS,λ_ _ _ _ _ _ _ _ _ _=>AS,λ_ _ _ _ _ _=>AS⟩|n+1=>⟨kQ (aA.at n) n,kR (aA.at n) n,kS (aA.at n) n,nE (aA.at n) n,lW (aA.at n) n⟩
def dZ (n:Nat):=(aA.at n).dZ
theorem tT (n:Nat):dZ (n+1)=kQ (aA.at n) n:=rfl
def ea (n:Nat):=(aA.at n).ea
theorem tU (n:Nat):ea (n+1)=kR (aA.at n) n:=rfl
def ef (n:Nat):=(aA.at n).ef
theorem tV (n:Nat):ef (n+1)=kS (aA.at n) n:=rfl
def dO (n:Nat):=(aA.at n).dO
theorem vt (n:Nat):dO (n+1)=nE (aA.at n) n:=rfl
def dI (n:Nat):=(aA.at n).dI
theorem uo (n:Nat):dI (n+1)=lW (aA.at n) n:=rfl
def wo (n:Nat):=fH (aA.at n) n
def wq (n:Nat):=ko (aA.at n) n
def uZ (n:Nat):=jk (aA.at n) n
abbrev Pl (n:Nat):bz:=⟨33,[aB,aK,aK,aK,aK,aK,aK,aK,aK,aK],[],λx=>dO n x.1 x.2.1 x.2.2.1 x.2.2.2.1 x.2.2.2.2.1 x.2.2.2.2.2.1 x.2.2.2.2.2.2.1 x.2.2.2.2.2.2.2.1 x.2.2.2.2.2.2.2.2.1 x.2.2.2.2.2.2.2.2.2⟩
abbrev ID:L1:=⟨[0,1,0,1,1,1,1,1,1],[(2,aK),(3,aK),(4,aK),(5,aK),(7,aK),(8,aK),(9,aK),(10,aK),(11,rW),(41,cJ),(42,aB),(43,aB)],[],[13]++List.range' 43 8,0,λn x=>ef n x.1 x.2.1 x.2.2.1 x.2.2.2.1 x.2.2.2.2.1 x.2.2.2.2.2.1 x.2.2.2.2.2.2.1 x.2.2.2.2.2.2.2.1 x.2.2.2.2.2.2.2.2.1 x.2.2.2.2.2.2.2.2.2.1 x.2.2.2.2.2.2.2.2.2.2.1 x.2.2.2.2.2.2.2.2.2.2.2⟩
abbrev IE:L1:=⟨[0,1,0,1,1,1,1,1,1,1],[(2,aK),(3,aK),(4,aK),(5,aK),(8,aK),(9,aK),(10,aK),(11,rW),(56,cJ),(57,aB),(58,aB)],[],[15]++List.range' 58 8,2,λn x=>ea n x.1 x.2.1 x.2.2.1 x.2.2.2.1 x.2.2.2.2.1 x.2.2.2.2.2.1 x.2.2.2.2.2.2.1 x.2.2.2.2.2.2.2.1 x.2.2.2.2.2.2.2.2.1 x.2.2.2.2.2.2.2.2.2.1 x.2.2.2.2.2.2.2.2.2.2⟩
abbrev IF:L1:=⟨[0,0,1,1,1,1,1,1,1,1,1,1],[(4,aK),(5,aK),(8,aK),(9,aK),(10,aK),(16,aB)],[(16,aB)],[16,17]++List.range' 75 24,4,λn x=>dZ n x.1 x.2.1 x.2.2.1 x.2.2.2.1 x.2.2.2.2.1 x.2.2.2.2.2⟩
abbrev UA (n:Nat):bz:=⟨34,[aB,aK,aK,aK,aK,aK],[],λx=>dI n x.1 x.2.1 x.2.2.1 x.2.2.2.1 x.2.2.2.2.1 x.2.2.2.2.2⟩
abbrev Xc (n:Nat):List bz:=Pl n::UA n::C56 n
abbrev E7 (n:Nat):List jx:=[⟨47,[aB],[],λx a=>wo n x a⟩, ⟨62,[aB],[],λx a=>wq n x a⟩]
def IG (i:Nat):Option (List (Nat×List Nat)):=cond (Nat.beq i 2) (some [(0,[]),(1,[]),(2,[]),(3,[]),(4,[]),(6,[]),(5,[]),(7,[2,3,5]),(8,[]),(9,[])]) (cond (Nat.beq i 16) (some [(0,[]),(1,[]),(2,[]),(3,[]),(4,[]),(5,[]),(6,[]),(7,[]),(8,[])]) (none))
abbrev UB (n:Nat):List jx:=[⟨12,[aB],[],λx a=>uZ n x a⟩]
def abO (i:Nat):Option (List (Nat×List Nat)):=cond (Nat.beq i 2) (some [(7,[]),(0,[]),(1,[]),(2,[]),(3,[]),(4,[]),(5,[]),(6,[]),(8,[]),(9,[]),(10,[]),(11,[]),(12,[])]) (cond (Nat.beq i 4) (some [(7,[]),(0,[]),(1,[]),(2,[]),(3,[]),(4,[]),(5,[]),(6,[]),(8,[]),(9,[]),(10,[]),(11,[]),(12,[])]) (none))
def cZ (n:Nat):Prop:=aP TZp (Pl n)/\aP TZp (UA n)
theorem GZ (n:Nat)(H:cZ n):aJ TZp (Xc n):=.cons H.1 (.cons H.2 (K56 n))
theorem IH (n:Nat)(H:cZ n):oY TZp (E7 n):=.cons (dq (l:=[⟨34,[aK,aK,aK,aK,aK],λa c=>dI n a c.1 c.2.1 c.2.2.1 c.2.2.2.1 c.2.2.2.2⟩]) (.cons (λa c=>aT (by kernel_rfl) ((H).2 (a,c.1,c.2.1,c.2.2.1,c.2.2.2.1,c.2.2.2.2))) .nil) (λx a=>by kernel_rfl)) (.cons (dq (l:=[⟨34,[aK,aK,aK,aK,aK],λa c=>dI n a c.1 c.2.1 c.2.2.1 c.2.2.2.1 c.2.2.2.2⟩]) (.cons (λa c=>aT (by kernel_rfl) ((H).2 (a,c.1,c.2.1,c.2.2.1,c.2.2.2.1,c.2.2.2.2))) .nil) (λx a=>by kernel_rfl)) .nil)
theorem RI (n:Nat)(H:∀m,m<n->cZ m):kE TZp Tryz.f33 (IF.e n) IF.ws:=L1.ok Tryz.f33 IF n Xc (dt:=E7) (dr:=IG) (hT:=λm hm=>⟨.nil,GZ m (H m hm),(IH m (H m hm)),.nil,.nil⟩)
theorem RJ (n:Nat)(H:∀m,m<n->cZ m):kE TZp Tryz.f33 (IE.e n) IE.ws:=L1.ok Tryz.f33 IE n Xc (dt:=E7) (dr:=IG) (hT:=λm hm=>⟨.nil,GZ m (H m hm),(IH m (H m hm)),.nil,.nil⟩)
theorem RL (n:Nat)(H:∀m,m<n->cZ m):kE TZp Tryz.f33 (ID.e n) ID.ws:=L1.ok Tryz.f33 ID n Xc (dt:=E7) (dr:=IG) (hT:=λm hm=>⟨.nil,GZ m (H m hm),(IH m (H m hm)),.nil,.nil⟩)
theorem tW (n:Nat)(H:∀m,m<n+1->cZ m):aP TZp (Pl (n+1)):=bE Tryz.f33 (Xc n) (dl:=E7 n) (ll:=[ID.e n,IE.e n,IF.e n]) (dr:=IG) (hT:=⟨.nil,GZ n (H n (aar n)),(IH n (H n (aar n))),(.cc (RL n (λk hk=>H k (abX hk))) (.cc (RJ n (λk hk=>H k (abX hk))) (.cc (RI n (λk hk=>H k (abX hk))) .nil))),.nil⟩)
theorem abP (n:Nat)(H:cZ n):oY TZp (UB n):=.cons (dq (l:=[⟨33,[aK,aK,aK,aK,aK,aK,aK,aK,aK],λa c=>dO n a c.1 c.2.1 c.2.2.1 c.2.2.2.1 c.2.2.2.2.1 c.2.2.2.2.2.1 c.2.2.2.2.2.2.1 c.2.2.2.2.2.2.2.1 c.2.2.2.2.2.2.2.2⟩]) (.cons (λa c=>aT (by kernel_rfl) ((H).1 (a,c.1,c.2.1,c.2.2.1,c.2.2.2.1,c.2.2.2.2.1,c.2.2.2.2.2.1,c.2.2.2.2.2.2.1,c.2.2.2.2.2.2.2.1,c.2.2.2.2.2.2.2.2))) .nil) (λx a=>by kernel_rfl)) .nil
theorem sF (n:Nat)(H:∀m,m<n+1->cZ m):aP TZp (UA (n+1)):=bE Tryz.f34 (Xc n) (dl:=UB n) (dr:=abO) (hT:=⟨.nil,GZ n (H n (aar n)),(abP n (H n (aar n))),.nil,.nil⟩)
theorem oF:∀n m,m<n->cZ m:=by
 intro n
 induction n with
 |zero=>intro m hm;exact absurd hm (afv m)
 |succ n ih=>
  intro m hm;cases m with
  |zero=>exact⟨fX (fn:=Tryz.f33) (by kernel_rfl) (by kernel_rfl) (by kernel_rfl) (λ_=>rfl),fX (fn:=Tryz.f34) (by kernel_rfl) (by kernel_rfl) (by kernel_rfl) (λ_=>rfl)⟩
  |succ k=>exact⟨tW k λm hm=>ih m (by omega),sF k λm hm=>ih m (by omega)⟩
theorem w8 (n:Nat):aP TZp (Pl n):=(oF (n+1) n (aar n)).1
theorem K57 (n:Nat):aJ TZp (Xc n):=GZ n (oF (n+1) n (aar n))
def nF (n:Nat)(x:Value)(a0:Int):M Unit:=if qw jY x then sh (oX [aK,aK,aK,aK,aK,aK,aK,aK,aK] x) λ(c:Addr×Addr×Addr×Addr×Addr×Addr×Addr×Addr×Addr)=>dO n a0 c.1 c.2.1 c.2.2.1 c.2.2.2.1 c.2.2.2.2.1 c.2.2.2.2.2.1 c.2.2.2.2.2.2.1 c.2.2.2.2.2.2.2.1 c.2.2.2.2.2.2.2.2 else AS
def mM (G:Addr->Int->Addr->Addr->Addr->Int->Int->M Unit)(n:Nat)(a0:Addr)(a1:Int)(a2 a3 a4:Addr)(a5 a6:Int):M Unit:=if decide (a6<a5) then sh (aq .sl a4) λ(x0:Sl)=>sh (av x0 a6 1) λx1=>sh (bG x1 [vi (-1)]) λx2=>G a0 a1 a2 a3 a4 a5 (i64.wrap (a6+1)) else AI ()
def gz:Nat->Addr->Int->Addr->Addr->Addr->Int->Int->M Unit|0=>λ_ _ _ _ _ _ _=>AS|n+1=>mM (gz n) n
theorem u0 (n:Nat):gz (n+1)=mM (gz n) n:=rfl
def nY (n:Nat)(a0:Sl×Int):M (Sl×Sl):=sh (aO none aj [aE a0.1,vi a0.2]) λx0=>sh (aq .sl ((ak x0).plus 0)) λ(x1:Sl)=>sh (eS 12) λx2=>sh (vc (some (x2+1)) au [vi 0] (↑x1.len:Int) (↑x1.len:Int)) λx3=>sh (vc (some (x2+3)) au [vi 0] (↑x1.len:Int) (↑x1.len:Int)) λx4=>sh (vc (some (x2+5)) au [vi 0] (↑x1.len:Int) (↑x1.len:Int)) λx5=>sh (aO (some (x2+6)) aR [aU]) λx6=>sh (aO (some (x2+7)) aR [aU]) λx7=>sh (aO (some (x2+8)) aR [aU]) λx8=>sh (Ed [x2+3,x2+5] (ak x6) (kG [none,none] (bG (ak x6) [aE x3]))) λx9=>sh (Ed [x2+5] (ak x7) (kG [none] (bG (ak x7) [aE x4]))) λx10=>sh (bG (ak x8) [aE x5]) λx11=>sh (aq .sl (ak x8)) λ(x12:Sl)=>sh (gz n (ak x0) (↑x1.len:Int) (ak x6) (ak x7) (ak x8) (↑x12.len:Int) 0) λx13=>sh (aO none aR [aU]) λiK=>sh (aO none aR [aU]) λx15=>sh (vc none uW [.bool false] (↑x1.len:Int) (↑x1.len:Int)) λpo=>sh (aO none yx [aU]) λx17=>sh (bG (ak x17) [aE po]) λqH=>sh (aO none au [vi 0]) λx19=>sh (bG (ak x19) [vi 0]) λx20=>sh (aO none vX [Value.nilFunc]) λx21=>sh (bG (ak x21) [.func (Fn.func jY) #[] #[.pointer (some (ak x19)),.pointer (some (ak x6)),.pointer (some (ak x7)),.pointer (some (ak x15)),.pointer (some (ak x17)),.pointer (some (ak x21)),.pointer (some (ak x0)),.pointer (some (ak iK)),.pointer (some (ak x8))]]) λx22=>sh (aq .raw (ak x21)) λ(x23:Value)=>sh (aq li ((ak x0).plus 1)) λ(x24:Int)=>sh (nF n x23 x24) λx25=>sh (aq .sl (ak x8)) λ(x26:Sl)=>sh (aq .sl (ak iK)) λ(x27:Sl)=>AI (x26,x27)
abbrev aaq (n:Nat):bz:=⟨23,[.agg [.sl,.int .i64]],[cJ,cJ],λx=>nY n x⟩
abbrev II:L1:=⟨[0,1,0,1,1,1],[(1,aK),(4,aB),(5,aK),(6,aK),(7,aK),(24,aB),(25,aB)],[],[8]++List.range' 25 7,0,λn x=>gz n x.1 x.2.1 x.2.2.1 x.2.2.2.1 x.2.2.2.2.1 x.2.2.2.2.2.1 x.2.2.2.2.2.2⟩
abbrev M6 (n:Nat):List jx:=[⟨35,[aB],[],λx a=>nF n x a⟩]
def UC (i:Nat):Option (List (Nat×List Nat)):=cond (Nat.beq i 2) (some [(0,[]),(2,[]),(4,[]),(1,[]),(3,[]),(5,[]),(6,[]),(7,[]),(8,[]),(9,[3,5]),(10,[5]),(11,[])]) (cond (Nat.beq i 14) (some [(0,[]),(2,[]),(1,[]),(3,[])]) (none))
theorem UD (n:Nat):oY TZp (M6 n):=.cons (dq (l:=[⟨33,[aK,aK,aK,aK,aK,aK,aK,aK,aK],λa c=>dO n a c.1 c.2.1 c.2.2.1 c.2.2.2.1 c.2.2.2.2.1 c.2.2.2.2.2.1 c.2.2.2.2.2.2.1 c.2.2.2.2.2.2.2.1 c.2.2.2.2.2.2.2.2⟩]) (.cons (λa c=>aT (by kernel_rfl) ((w8 n) (a,c.1,c.2.1,c.2.2.1,c.2.2.2.1,c.2.2.2.2.1,c.2.2.2.2.2.1,c.2.2.2.2.2.2.1,c.2.2.2.2.2.2.2.1,c.2.2.2.2.2.2.2.2))) .nil) (λx a=>by kernel_rfl)) .nil
theorem RM (n:Nat):kE TZp Tryz.f23 (II.e n) II.ws:=L1.ok Tryz.f23 II n Xc (dt:=M6) (dr:=UC) (hT:=λm _=>⟨.nil,K57 m,(UD m),.nil,.nil⟩)
theorem yU (n:Nat):aP TZp (aaq n):=bE Tryz.f23 (Xc n) (dl:=M6 n) (ll:=[II.e n]) (dr:=UC) (hT:=⟨.nil,K57 n,(UD n),(.cc (RM n) .nil),.nil⟩)
abbrev C58 (n:Nat):List bz:=aaq n::Xc n
theorem K58 (n:Nat):aJ TZp (C58 n):=.cons (yU n) (K57 n)
def qX (G:Addr->Sl->Sl->Bool->Sl->Sl->Int->Int->Int->Sl->Int->Int->Sl->Int->Int->Sl->Int->Int->M Bool)(n:Nat)(a0:Addr)(a1 a2:Sl)(a3:Bool)(a4 a5:Sl)(a6 a7 a8:Int)(a9:Sl)(a10 a11:Int)(a12:Sl)(a13 a14:Int)(a15:Sl)(a16 a17:Int):M Bool:=if decide (a17<a16) then sh (av a15 a17 1) λx0=>sh (aq li x0) λ(x1:Int)=>sh (av a1 x1 1) λx2=>sh (aq li x2) λ(x3:Int)=>if decide (x3=a6) then G a0 a1 a2 false a4 a5 a6 a7 a8 a9 a10 a11 a12 a13 a14 a15 a16 (i64.wrap (a17+1)) else sh (av a4 a6 1) λx4=>sh (av a1 x1 1) λx5=>sh (aq li x4) λ(x6:Int)=>sh (aq li x5) λ(x7:Int)=>sh (av a4 x7 1) λx8=>sh (aq li x8) λ(x9:Int)=>sh (av a4 a6 1) λx10=>sh (bG x10 [vi (if x6<x9 then x9 else x6)]) λx11=>G a0 a1 a2 a3 a4 a5 a6 a7 a8 a9 a10 a11 a12 a13 a14 a15 a16 (i64.wrap (a17+1)) else AI a3
def kT:Nat->Addr->Sl->Sl->Bool->Sl->Sl->Int->Int->Int->Sl->Int->Int->Sl->Int->Int->Sl->Int->Int->M Bool|0=>λ_ _ _ _ _ _ _ _ _ _ _ _ _ _ _ _ _ _=>AS|n+1=>qX (kT n) n
theorem yV (n:Nat):kT (n+1)=qX (kT n) n:=rfl
def kU (G:Addr->Sl->Sl->Bool->Sl->Sl->Int->Int->Int->Sl->Int->Int->Sl->Int->Int->M Bool)(n:Nat)(a0:Addr)(a1 a2:Sl)(a3:Bool)(a4 a5:Sl)(a6 a7 a8:Int)(a9:Sl)(a10 a11:Int)(a12:Sl)(a13 a14:Int):M Bool:=if decide (a14<a13) then sh (av a12 a14 1) λx0=>sh (aq .sl x0) λ(x1:Sl)=>sh (kT n a0 a1 a2 a3 a4 a5 a6 a7 a8 a9 a10 a11 a12 a13 a14 x1 (↑x1.len:Int) 0) λx2=>G a0 a1 a2 x2 a4 a5 a6 a7 a8 a9 a10 a11 a12 a13 (i64.wrap (a14+1)) else AI a3
def kV:Nat->Addr->Sl->Sl->Bool->Sl->Sl->Int->Int->Int->Sl->Int->Int->Sl->Int->Int->M Bool|0=>λ_ _ _ _ _ _ _ _ _ _ _ _ _ _ _=>AS|n+1=>kU (kV n) n
theorem oj (n:Nat):kV (n+1)=kU (kV n) n:=rfl
def qY (G:Addr->Sl->Sl->Bool->Sl->Sl->Int->Int->Int->Sl->Int->Int->M Bool)(n:Nat)(a0:Addr)(a1 a2:Sl)(a3:Bool)(a4 a5:Sl)(a6 a7 a8:Int)(a9:Sl)(a10 a11:Int):M Bool:=if decide (a11<a10) then sh (av a9 a11 1) λx0=>sh (aq li x0) λ(x1:Int)=>sh (eS 15) λx2=>sh (aq .sl (a0.plus 0)) λ(x3:Sl)=>sh (av x3 x1 5) λx4=>sh (aq .sl (x4.plus 3)) λ(x5:Sl)=>sh (aq .sl (a0.plus 0)) λ(x6:Sl)=>sh (av x6 x1 5) λx7=>sh (aq .sl (x7.plus 4)) λ(x8:Sl)=>sh (aO (some (x2+12)) aR [aE x5,aE x8]) λx9=>sh (kV n a0 a1 a2 a3 a4 a5 a6 a7 a8 a9 a10 a11 { a:=some (ak x9),len:=2,cap:=3 } (↑2:Int) 0) λx10=>G a0 a1 a2 x10 a4 a5 a6 a7 a8 a9 a10 (i64.wrap (a11+1)) else AI a3
def kW:Nat->Addr->Sl->Sl->Bool->Sl->Sl->Int->Int->Int->Sl->Int->Int->M Bool|0=>λ_ _ _ _ _ _ _ _ _ _ _ _=>AS|n+1=>qY (kW n) n
theorem yW (n:Nat):kW (n+1)=qY (kW n) n:=rfl
def qZ (G:Addr->Sl->Sl->Bool->Sl->Sl->Int->Int->M Bool)(n:Nat)(a0:Addr)(a1 a2:Sl)(a3:Bool)(a4 a5:Sl)(a6 a7:Int):M Bool:=if decide (a7<a6) then sh (av a5 a7 1) λx0=>sh (aq .sl x0) λ(x1:Sl)=>sh (kW n a0 a1 a2 a3 a4 a5 a7 a6 a7 x1 (↑x1.len:Int) 0) λx2=>sh (av a4 a7 1) λx3=>sh (av a2 a7 1) λx4=>sh (aq li x3) λ(x5:Int)=>sh (aq li x4) λ(x6:Int)=>sh (av a4 a7 1) λx7=>sh (bG x7 [vi (i64.wrap (x5+x6))]) λx8=>G a0 a1 a2 x2 a4 a5 a6 (i64.wrap (a7+1)) else AI a3
def kX:Nat->Addr->Sl->Sl->Bool->Sl->Sl->Int->Int->M Bool|0=>λ_ _ _ _ _ _ _ _=>AS|n+1=>qZ (kX n) n
theorem yX (n:Nat):kX (n+1)=qZ (kX n) n:=rfl
def re (G:Addr->Sl->Sl->Bool->Sl->Sl->Sl->Int->Int->M Unit)(n:Nat)(a0:Addr)(a1 a2:Sl)(a3:Bool)(a4 a5 a6:Sl)(a7 a8:Int):M Unit:=if decide (a8<a7) then sh (av a6 a8 1) λx0=>sh (aq li x0) λ(x1:Int)=>sh (av a5 x1 1) λx2=>sh (aq .sl x2) λ(x3:Sl)=>sh (app false x3 1 au 1 [vi a8]) λx4=>sh (av a5 x1 1) λx5=>sh (bG x5 [aE x4]) λx6=>G a0 a1 a2 a3 a4 a5 a6 a7 (i64.wrap (a8+1)) else AI ()
def kY:Nat->Addr->Sl->Sl->Bool->Sl->Sl->Sl->Int->Int->M Unit|0=>λ_ _ _ _ _ _ _ _ _=>AS|n+1=>re (kY n) n
theorem yY (n:Nat):kY (n+1)=re (kY n) n:=rfl
def rY (n:Nat)(a0:Sl×Int):M (Int×Bool):=sh (aO none aj [aE a0.1,vi a0.2]) λx0=>sh (aI [.sl,li] (ak x0)) λ(x1:Sl×Int)=>sh (nY n (x1.1,x1.2)) λx2=>sh (vc none au [vi 0] (↑x2.2.len:Int) (↑x2.2.len:Int)) λx3=>sh (vc none aR [aU] (↑x2.2.len:Int) (↑x2.2.len:Int)) λx4=>sh (kY n (ak x0) x2.1 x2.2 true x3 x4 x2.1 (↑x2.1.len:Int) 0) λx5=>sh (kX n (ak x0) x2.1 x2.2 true x3 x4 (↑x2.2.len:Int) 0) λx6=>sh (aq li ((ak x0).plus 1)) λ(x7:Int)=>sh (av x2.1 x7 1) λx8=>sh (aq li x8) λ(x9:Int)=>sh (av x3 x9 1) λx10=>sh (aq li x10) λ(x11:Int)=>AI (i64.wrap (x11-1),x6)
abbrev aas (n:Nat):bz:=⟨17,[.agg [.sl,.int .i64]],[aB,jz],λx=>rY n x⟩
abbrev IJ:L1:=⟨[0,1,0,1,1,1,1,1],[(1,aK),(4,cJ),(5,cJ),(6,jz),(7,cJ),(8,cJ),(29,cJ),(30,aB),(31,aB)],[],[9,10]++List.range' 31 16,0,λn x=>kY n x.1 x.2.1 x.2.2.1 x.2.2.2.1 x.2.2.2.2.1 x.2.2.2.2.2.1 x.2.2.2.2.2.2.1 x.2.2.2.2.2.2.2.1 x.2.2.2.2.2.2.2.2⟩
abbrev IK:L1:=⟨[0,1,0,1,1,1,1,1,1],[(1,aK),(4,cJ),(5,cJ),(6,jz),(7,cJ),(8,cJ),(48,aB),(49,aB)],[(6,jz)],[6,11,13,15,17]++List.range' 49 71,2,λn x=>kX n x.1 x.2.1 x.2.2.1 x.2.2.2.1 x.2.2.2.2.1 x.2.2.2.2.2.1 x.2.2.2.2.2.2.1 x.2.2.2.2.2.2.2⟩
abbrev IM:L1:=⟨[0,1,0,1,0,0,1,1,0,0,1,0,1,1,1,1,1,1],[(1,aK),(4,cJ),(5,cJ),(6,jz),(7,cJ),(8,cJ),(11,aB),(48,aB),(49,aB),(55,cJ),(56,aB),(57,aB)],[(6,jz)],[6,13,15,17]++List.range' 57 52,4,λn x=>kW n x.1 x.2.1 x.2.2.1 x.2.2.2.1 x.2.2.2.2.1 x.2.2.2.2.2.1 x.2.2.2.2.2.2.1 x.2.2.2.2.2.2.2.1 x.2.2.2.2.2.2.2.2.1 x.2.2.2.2.2.2.2.2.2.1 x.2.2.2.2.2.2.2.2.2.2.1 x.2.2.2.2.2.2.2.2.2.2.2⟩
abbrev IQ:L1:=⟨[0,1,1,0,0,1,1,0,0,1,0,1,0,0,1,1,0,0,1,0,1,1,1,1,1,1],[(1,aK),(4,cJ),(5,cJ),(6,jz),(7,cJ),(8,cJ),(11,aB),(48,aB),(49,aB),(55,cJ),(56,aB),(57,aB),(73,cJ),(74,aB),(75,aB)],[(6,jz)],[6,15,17]++List.range' 75 33,6,λn x=>kV n x.1 x.2.1 x.2.2.1 x.2.2.2.1 x.2.2.2.2.1 x.2.2.2.2.2.1 x.2.2.2.2.2.2.1 x.2.2.2.2.2.2.2.1 x.2.2.2.2.2.2.2.2.1 x.2.2.2.2.2.2.2.2.2.1 x.2.2.2.2.2.2.2.2.2.2.1 x.2.2.2.2.2.2.2.2.2.2.2.1 x.2.2.2.2.2.2.2.2.2.2.2.2.1 x.2.2.2.2.2.2.2.2.2.2.2.2.2.1 x.2.2.2.2.2.2.2.2.2.2.2.2.2.2⟩
abbrev IU:L1:=⟨[0,1,1,0,0,1,1,0,0,1,1,0,0,1,1,0,0,1,0,1,0,0,1,1,0,0,1,0,1,1,1,1,1,1],[(1,aK),(4,cJ),(5,cJ),(6,jz),(7,cJ),(8,cJ),(11,aB),(48,aB),(49,aB),(55,cJ),(56,aB),(57,aB),(73,cJ),(74,aB),(75,aB),(79,cJ),(80,aB),(81,aB)],[(6,jz)],[6,17]++List.range' 81 26,8,λn x=>kT n x.1 x.2.1 x.2.2.1 x.2.2.2.1 x.2.2.2.2.1 x.2.2.2.2.2.1 x.2.2.2.2.2.2.1 x.2.2.2.2.2.2.2.1 x.2.2.2.2.2.2.2.2.1 x.2.2.2.2.2.2.2.2.2.1 x.2.2.2.2.2.2.2.2.2.2.1 x.2.2.2.2.2.2.2.2.2.2.2.1 x.2.2.2.2.2.2.2.2.2.2.2.2.1 x.2.2.2.2.2.2.2.2.2.2.2.2.2.1 x.2.2.2.2.2.2.2.2.2.2.2.2.2.2.1 x.2.2.2.2.2.2.2.2.2.2.2.2.2.2.2.1 x.2.2.2.2.2.2.2.2.2.2.2.2.2.2.2.2.1 x.2.2.2.2.2.2.2.2.2.2.2.2.2.2.2.2.2⟩
def BR (i:Nat):Option (List (Nat×List Nat)):=cond (Nat.beq i 16) (some [(0,[]),(2,[]),(6,[]),(8,[]),(14,[]),(1,[]),(3,[]),(4,[]),(5,[]),(7,[]),(9,[]),(10,[]),(11,[]),(12,[]),(13,[])]) (cond (Nat.beq i 24) (some [(0,[]),(1,[]),(2,[]),(3,[]),(4,[]),(6,[]),(7,[]),(8,[]),(9,[]),(5,[]),(10,[]),(11,[]),(12,[]),(13,[]),(14,[]),(15,[])]) (cond (Nat.beq i 28) (some [(0,[]),(1,[]),(2,[]),(4,[]),(5,[]),(6,[]),(3,[]),(7,[]),(8,[]),(9,[]),(10,[])]) (none)))
theorem RN (n:Nat):kE TZp Tryz.f17 (IU.e n) IU.ws:=L1.ok Tryz.f17 IU n C58 (dr:=BR) (hT:=λm _=>.m1 (K58 m))
theorem RP (n:Nat):kE TZp Tryz.f17 (IQ.e n) IQ.ws:=L1.ok Tryz.f17 IQ n C58 (lt:=λn=>[IU.e n]) (dr:=BR) (hT:=λm _=>⟨.nil,K58 m,.nil,(.cc (RN m) .nil),.nil⟩)
theorem RQ (n:Nat):kE TZp Tryz.f17 (IM.e n) IM.ws:=L1.ok Tryz.f17 IM n C58 (lt:=λn=>[IQ.e n]) (dr:=BR) (hT:=λm _=>⟨.nil,K58 m,.nil,(.cc (RP m) .nil),.nil⟩)
theorem RR (n:Nat):kE TZp Tryz.f17 (IK.e n) IK.ws:=L1.ok Tryz.f17 IK n C58 (lt:=λn=>[IM.e n]) (dr:=BR) (hT:=λm _=>⟨.nil,K58 m,.nil,(.cc (RQ m) .nil),.nil⟩)
theorem RS (n:Nat):kE TZp Tryz.f17 (IJ.e n) IJ.ws:=L1.ok Tryz.f17 IJ n C58 (dr:=BR) (hT:=λm _=>.m1 (K58 m))
theorem E8 (n:Nat):aP TZp (aas n):=bE Tryz.f17 (C58 n) (ll:=[IJ.e n,IK.e n]) (dr:=BR) (hT:=⟨.nil,K58 n,.nil,(.cc (RS n) (.cc (RR n) .nil)),.nil⟩)
abbrev C59 (n:Nat):List bz:=aas n::C58 n
theorem K59 (n:Nat):aJ TZp (C59 n):=.cons (E8 n) (K58 n)
def rf (G:Addr->Sl->Sl->Int->Int->M (Unit⊕Int))(n:Nat)(a0:Addr)(a1 a2:Sl)(a3 a4:Int):M (Unit⊕Int):=if decide (a4<a3) then sh (av a2 a4 1) λx0=>sh (aq .bool x0) λ(x1:Bool)=>if x1 then sh (av a1 a4 1) λx2=>sh (aq li x2) λ(x3:Int)=>if !decide (x3=1) then AI (Sum.inr 3) else G a0 a1 a2 a3 (i64.wrap (a4+1)) else G a0 a1 a2 a3 (i64.wrap (a4+1)) else AI (Sum.inl ())
def kZ:Nat->Addr->Sl->Sl->Int->Int->M (Unit⊕Int)|0=>λ_ _ _ _ _=>AS|n+1=>rf (kZ n) n
theorem yZ (n:Nat):kZ (n+1)=rf (kZ n) n:=rfl
def rh (G:Addr->Sl->Sl->Int->Int->M (Unit⊕Int))(n:Nat)(a0:Addr)(a1 a2:Sl)(a3 a4:Int):M (Unit⊕Int):=if decide (a4<a3) then sh (av a2 a4 5) λx0=>sh (aI [li,.str,.bool,.sl,.sl] x0) λ(x1:Int×ByteArray×Bool×Sl×Sl)=>sh (aO none aw [vi 0,.string (ofBytes []),.bool false,aU,aU]) λx2=>sh (bG (ak x2) [vi x1.1,.string x1.2.1,.bool x1.2.2.1,aE x1.2.2.2.1,aE x1.2.2.2.2]) λx3=>sh (av a1 a4 1) λx4=>sh (aq .bool x4) λ(x5:Bool)=>if !x5 then AI (Sum.inr 3) else sh (aI [li,.str,.bool,.sl,.sl] (ak x2)) λ(x6:Int×ByteArray×Bool×Sl×Sl)=>sh (wj n (x6.1,x6.2.1,x6.2.2.1,x6.2.2.2.1,x6.2.2.2.2)) λx7=>if !x7 then AI (Sum.inr 3) else G a0 a1 a2 a3 (i64.wrap (a4+1)) else AI (Sum.inl ())
def lg:Nat->Addr->Sl->Sl->Int->Int->M (Unit⊕Int)|0=>λ_ _ _ _ _=>AS|n+1=>rh (lg n) n
theorem y0 (n:Nat):lg (n+1)=rh (lg n) n:=rfl
def tX (n:Nat)(a0:Addr):M Int:=sh (aq .sl (a0.plus 0)) λ(x0:Sl)=>sh (vc none uW [.bool false] (↑x0.len:Int) (↑x0.len:Int)) λx1=>sh (aI [.sl,li] a0) λ(x2:Sl×Int)=>sh (aq li (a0.plus 1)) λ(x3:Int)=>sh (mA n (x2.1,x2.2) x3 x1) λx4=>sh (aq .sl (a0.plus 0)) λ(x5:Sl)=>sh (lg n a0 x1 x5 (↑x5.len:Int) 0) (cw (λx6=>sh (aI [.sl,li] a0) λ(x7:Sl×Int)=>sh (s7 n (x7.1,x7.2)) λx8=>sh (aI [.sl,li] a0) λ(x9:Sl×Int)=>sh (s9 n (x9.1,x9.2)) λx10=>sh (kZ n a0 x8 x10 (↑x10.len:Int) 0) (cw (λx11=>sh (aI [.sl,li] a0) λ(x12:Sl×Int)=>sh (uG n (x12.1,x12.2)) λx13=>if x13 then AI 8 else sh (aI [.sl,li] a0) λ(iK:Sl×Int)=>sh (rY n (iK.1,iK.2)) λx15=>if decide (32<x15.1) then AI 5 else AI 0) (λx11=>AI x11))) (λx6=>AI x6))
def lL (n:Nat)(a0:Sl×Int):M Int:=sh (aO none aj [aE a0.1,vi a0.2]) λx0=>sh (aq .sl ((ak x0).plus 0)) λ(x1:Sl)=>if decide (4096<(↑x1.len:Int)) then AI 7 else sh (aq .sl ((ak x0).plus 0)) λ(x2:Sl)=>if decide ((↑x2.len:Int)=0) then AI 3 else sh (aI [.sl,li] (ak x0)) λ(x3:Sl×Int)=>sh (rJ n (x3.1,x3.2)) λx4=>if !x4 then AI 3 else tX n (ak x0)
abbrev aej (n:Nat):bz:=⟨6,[.agg [.sl,.int .i64]],[aB],λx=>lL n x⟩
abbrev Pn:L2:=⟨[0,1,0,1,1,1,1,1],[(1,aK),(3,cJ),(34,cJ),(35,aB),(36,aB)],[],[(2,aB)],[2,4,5]++List.range' 36 16,0,.ret,λn x=>lg n x.1 x.2.1 x.2.2.1 x.2.2.2.1 x.2.2.2.2⟩
abbrev Po:L2:=⟨[0,1,0,1,1,1,1,1,1,1],[(1,aK),(6,cJ),(55,cJ),(56,aB),(57,aB)],[],[(2,aB)],[2,7,8]++List.range' 57 14,2,.ret,λn x=>kZ n x.1 x.2.1 x.2.2.1 x.2.2.2.1 x.2.2.2.2⟩
abbrev aek (n:Nat):List (gj Int):=[⟨[0,1,1,1],[.code [1,1,1,1]],[(1,aK)],λx=>tX n x⟩]
theorem UE (n:Nat):kE TZp Tryz.f6 (Po.e n) Po.ws:=L2.ok Tryz.f6 Po n C59 (hT:=λm _=>.m1 (K59 m))
theorem UF (n:Nat):kE TZp Tryz.f6 (Pn.e n) Pn.ws:=L2.ok Tryz.f6 Pn n C59 (hT:=λm _=>.m1 (K59 m))
theorem E9 (n:Nat):aP TZp (aej n):=bE Tryz.f6 (C59 n) (ll:=[Pn.e n,Po.e n]) (js:=aek n) (hT:=⟨.nil,K59 n,.nil,(.cc (UF n) (.cc (UE n) .nil)),(.cc .nil)⟩)
abbrev C60 (n:Nat):List bz:=aej n::C59 n
theorem K60 (n:Nat):aJ TZp (C60 n):=.cons (E9 n) (K59 n)
def xW (n:Nat)(a0:Sl×Int):M ((Option Addr)):=sh (aO none aj [aE a0.1,vi a0.2]) λx0=>sh (eS 8) λx1=>sh (aI [.sl,li] (ak x0)) λ(x2:Sl×Int)=>sh (aq .sl ((ak x0).plus 0)) λ(x3:Sl)=>sh (vc (some (x1+4)) aR [aU] (↑x3.len:Int) (↑x3.len:Int)) λx4=>sh (aO (some (x1+6)) dj [aE x2.1,vi x2.2,aE x4]) λx5=>AI (some (ak x5))
abbrev aat (n:Nat):bz:=⟨46,[.agg [.sl,.int .i64]],[tA],λx=>xW n x⟩
def abR (i:Nat):Option (List (Nat×List Nat)):=cond (Nat.beq i 1) (some [(1,[]),(0,[]),(2,[]),(3,[]),(4,[]),(5,[]),(6,[]),(7,[])]) (none)
theorem Lu (n:Nat):aP TZp (aat n):=bE Tryz.f46 (C60 n) (dr:=abR) (hT:=.m1 (K60 n))
abbrev C61 (n:Nat):List bz:=aat n::C60 n
theorem K61 (n:Nat):aJ TZp (C61 n):=.cons (Lu n) (K60 n)
def p7 (G:Sl->Sl->Int->M (Unit⊕Int))(n:Nat)(a0 a1:Sl)(a2:Int):M (Unit⊕Int):=if decide (0<=a2) then sh (av a0 a2 1) λx0=>sh (av a1 a2 1) λx1=>sh (aq (.int IntKind.u8) x0) λ(x2:Int)=>sh (aq (.int IntKind.u8) x1) λ(x3:Int)=>if !decide (x2=x3) then sh (av a0 a2 1) λx4=>sh (av a1 a2 1) λx5=>sh (aq (.int IntKind.u8) x4) λ(x6:Int)=>sh (aq (.int IntKind.u8) x5) λ(x7:Int)=>if decide (x6<x7) then AI (Sum.inr (-1)) else AI (Sum.inr 1) else G a0 a1 (i64.wrap (a2-1)) else AI (Sum.inl ())
def jT:Nat->Sl->Sl->Int->M (Unit⊕Int)|0=>λ_ _ _=>AS|n+1=>p7 (jT n) n
theorem xX (n:Nat):jT (n+1)=p7 (jT n) n:=rfl
def p8 (n:Nat)(a0 a1:Sl):M Int:=if !decide ((↑a0.len:Int)=(↑a1.len:Int)) then if decide ((↑a0.len:Int)<(↑a1.len:Int)) then AI (-1) else AI 1 else sh (jT n a0 a1 (i64.wrap ((↑a0.len:Int)-1))) (cw (λx0=>AI 0) (λx0=>AI x0))
abbrev UG (n:Nat):bz:=⟨186,[cJ,cJ],[aB],λx=>p8 n x.1 x.2⟩
abbrev Dr:L2:=⟨[0,1,0,1,1],[(0,cJ),(1,cJ),(5,aB)],[],[(4,aB)],[4,5]++List.range' 19 22,0,.ret,λn x=>jT n x.1 x.2.1 x.2.2⟩
def Pp (i:Nat):Option (List (Nat×List Nat)):=cond (Nat.beq i 8) (some [(0,[]),(1,[]),(2,[]),(4,[]),(5,[]),(6,[]),(3,[]),(7,[]),(8,[])]) (cond (Nat.beq i 9) (some [(0,[]),(1,[]),(2,[]),(4,[]),(5,[]),(6,[]),(3,[]),(7,[]),(8,[])]) (none))
theorem M7 (n:Nat):kE TZp Tryz.f186 (Dr.e n) Dr.ws:=L2.ok Tryz.f186 Dr n C61 (dr:=Pp) (hT:=λm _=>.m1 (K61 m))
theorem Db (n:Nat):aP TZp (UG n):=bE Tryz.f186 (C61 n) (ll:=[Dr.e n]) (dr:=Pp) (hT:=⟨.nil,K61 n,.nil,(.cc (M7 n) .nil),.nil⟩)
abbrev C62 (n:Nat):List bz:=UG n::C61 n
theorem K62 (n:Nat):aJ TZp (C62 n):=.cons (Db n) (K61 n)
def jl (n:Nat)(a0 a1:Addr):M Int:=sh (aq .bool (a0.plus 0)) λ(x0:Bool)=>if x0 then sh (aq .sl (a1.plus 1)) λ(x1:Sl)=>sh (aq .sl (a0.plus 1)) λ(x2:Sl)=>sh (p8 n x1 x2) λx3=>AI x3 else sh (aq .sl (a0.plus 1)) λ(x1:Sl)=>sh (aq .sl (a1.plus 1)) λ(x2:Sl)=>sh (p8 n x1 x2) λx3=>AI x3
def p9 (n:Nat)(a0 a1:Addr):M Int:=sh (aq .bool (a0.plus 0)) λ(x0:Bool)=>if x0 then sh (aq .bool (a1.plus 0)) λ(x1:Bool)=>if !x1 then AI (-1) else sh (aq .bool (a0.plus 0)) λ(x2:Bool)=>if !x2 then sh (aq .bool (a1.plus 0)) λ(x3:Bool)=>if x3 then AI 1 else jl n a0 a1 else jl n a0 a1 else sh (aq .bool (a0.plus 0)) λ(x1:Bool)=>if !x1 then sh (aq .bool (a1.plus 0)) λ(x2:Bool)=>if x2 then AI 1 else jl n a0 a1 else jl n a0 a1
def uH (n:Nat)(a0 a1:ByteArray):M Int:=sh (nS n a0) λx0=>sh (aO none aH [.bool false,aU]) λx1=>sh (bG (ak x1) [.bool x0.1.1,aE x0.1.2]) λx2=>sh (nS n a1) λx3=>sh (aO none aH [.bool false,aU]) λx4=>sh (bG (ak x4) [.bool x3.1.1,aE x3.1.2]) λx5=>if !x0.2 then AI 0 else if !x3.2 then AI 0 else p9 n (ak x1) (ak x4)
abbrev UH (n:Nat):bz:=⟨170,[oe,oe],[aB],λx=>uH n x.1 x.2⟩
abbrev Ya (n:Nat):List (gj Int):=[⟨[0,0,0,1,1,1,1],[.code [1,0,0,1,1,1,1],.ar 0,.code [1,1,1,1,1]],[(5,aK),(7,aK)],λx=>p9 n x.1 x.2⟩, ⟨[0,1,1,1,1,0,0,1,1,1,1],[.code [1,1,1,1,1,0,0,1,1,1,1],.ar 0,.code [1,1,1,1,1]],[(5,aK),(7,aK)],λx=>jl n x.1 x.2⟩]
theorem Fa (n:Nat):aP TZp (UH n):=bE Tryz.f170 (C62 n) (js:=Ya n) (hT:=⟨.nil,K62 n,.nil,.nil,(.cc (.cc .nil))⟩)
abbrev C63 (n:Nat):List bz:=UH n::C62 n
theorem K63 (n:Nat):aJ TZp (C63 n):=.cons (Fa n) (K62 n)
def rO (n:Nat)(a0:Int):M Int:=if decide (a0<0) then AI (-1) else if decide (0<a0) then AI 1 else AI 0
abbrev UI (n:Nat):bz:=⟨192,[aB],[aB],λx=>rO n x⟩
theorem BT (n:Nat):aP TZp (UI n):=bE Tryz.f192 (C63 n) (hT:=.m1 (K63 n))
abbrev C64 (n:Nat):List bz:=UI n::C63 n
theorem K64 (n:Nat):aJ TZp (C64 n):=.cons (BT n) (K63 n)
def eK (n:Nat)(a0:Bool×Sl×Int)(a1:Int):M Int:=sh (aO none bZ [.bool a0.1,aE a0.2.1,vi a0.2.2]) λx0=>sh (aq .sl ((ak x0).plus 1)) λ(x1:Sl)=>if decide (a1<(↑x1.len:Int)) then sh (aq .sl ((ak x0).plus 1)) λ(x2:Sl)=>sh (av x2 a1 1) λx3=>sh (aq (.int IntKind.u8) x3) λ(x4:Int)=>AI x4 else AI 0
abbrev UJ (n:Nat):bz:=⟨195,[.agg [.bool,.sl,.int .i64],aB],[.one (.int .u8)],λx=>eK n x.1 x.2⟩
theorem lh (n:Nat):aP TZp (UJ n):=bE Tryz.f195 (C64 n) (hT:=.m1 (K64 n))
abbrev C65 (n:Nat):List bz:=UJ n::C64 n
theorem K65 (n:Nat):aJ TZp (C65 n):=.cons (lh n) (K64 n)
def lX (n:Nat)(x:Value)(a0:Bool×Sl×Int)(a1:Int):M Int:=if qw iQ x then sh (oX [] x) λ(_:Unit)=>eK n a0 a1 else AS
def lY (n:Nat)(x:Value)(a0:Bool×Sl×Int)(a1:Int):M Int:=if qw iQ x then sh (oX [] x) λ(_:Unit)=>eK n a0 a1 else AS
def lj (G:Addr->Addr->Value->Int->Int->M (Unit⊕Int))(n:Nat)(a0 a1:Addr)(a2:Value)(a3 a4:Int):M (Unit⊕Int):=if decide (a4<a3) then sh (aI [.bool,.sl,li] a0) λ(x0:Bool×Sl×Int)=>sh (aI [.bool,.sl,li] a1) λ(x1:Bool×Sl×Int)=>sh (kG [some a1] (lX n a2 (x0.1,x0.2.1,x0.2.2) a4)) λx2=>sh (lY n a2 (x1.1,x1.2.1,x1.2.2) a4) λx3=>if !decide (i64.wrap (i64.wrap x2-i64.wrap x3)=0) then AI (Sum.inr (i64.wrap (i64.wrap x2-i64.wrap x3))) else G a0 a1 a2 a3 (i64.wrap (a4+1)) else AI (Sum.inl ())
def fF:Nat->Addr->Addr->Value->Int->Int->M (Unit⊕Int)|0=>λ_ _ _ _ _=>AS|n+1=>lj (fF n) n
theorem tY (n:Nat):fF (n+1)=lj (fF n) n:=rfl
def mN (n:Nat)(a0 a1:Addr):M Int:=sh (aq .sl (a0.plus 1)) λ(x0:Sl)=>sh (aq li (a0.plus 2)) λ(x1:Int)=>sh (aq .sl (a1.plus 1)) λ(x2:Sl)=>sh (aq li (a1.plus 2)) λ(x3:Int)=>if !decide (i64.wrap (i64.wrap (i64.wrap ((↑x0.len:Int)+x1)-(↑x2.len:Int))-x3)=0) then AI (i64.wrap (i64.wrap (i64.wrap ((↑x0.len:Int)+x1)-(↑x2.len:Int))-x3)) else sh (aq .sl (a0.plus 1)) λ(x4:Sl)=>sh (aq .sl (a1.plus 1)) λ(x5:Sl)=>sh (fF n a0 a1 (Value.func (Fn.func iQ) #[] #[]) (if (↑x4.len:Int)<(↑x5.len:Int) then (↑x5.len:Int) else (↑x4.len:Int)) 0) (cw (λx6=>AI 0) (λx6=>AI x6))
def lZ (n:Nat)(a0 a1:Bool×Sl×Int):M Int:=sh (aO none bZ [.bool a0.1,aE a0.2.1,vi a0.2.2]) λx0=>sh (aO none bZ [.bool a1.1,aE a1.2.1,vi a1.2.2]) λx1=>sh (aq .sl ((ak x0).plus 1)) λ(x2:Sl)=>if decide ((↑x2.len:Int)=0) then sh (aq .sl ((ak x0).plus 1)) λ(x3:Sl)=>sh (aq .sl ((ak x1).plus 1)) λ(x4:Sl)=>AI (i64.wrap ((↑x3.len:Int)-(↑x4.len:Int))) else sh (aq .sl ((ak x1).plus 1)) λ(x3:Sl)=>if decide ((↑x3.len:Int)=0) then sh (aq .sl ((ak x0).plus 1)) λ(x4:Sl)=>sh (aq .sl ((ak x1).plus 1)) λ(x5:Sl)=>AI (i64.wrap ((↑x4.len:Int)-(↑x5.len:Int))) else mN n (ak x0) (ak x1)
abbrev UK (n:Nat):bz:=⟨193,[.agg [.bool,.sl,.int .i64],.agg [.bool,.sl,.int .i64]],[aB],λx=>lZ n x.1 x.2⟩
abbrev Ds:L2:=⟨[0,1,0,1,1,1,1],[(2,aK),(3,aK),(6,rW),(48,aB),(49,aB)],[],[(4,aB)],[4,7,8]++List.range' 49 18,0,.ret,λn x=>fF n x.1 x.2.1 x.2.2.1 x.2.2.2.1 x.2.2.2.2⟩
abbrev IV (n:Nat):List jx:=[⟨52,[.agg [.bool,.sl,.int .i64],aB],[.one (.int .u8)],λx a=>lX n x a.1 a.2⟩, ⟨57,[.agg [.bool,.sl,.int .i64],aB],[.one (.int .u8)],λx a=>lY n x a.1 a.2⟩]
def Pq (i:Nat):Option (List (Nat×List Nat)):=cond (Nat.beq i 10) (some [(0,[]),(2,[]),(5,[]),(7,[]),(1,[]),(6,[]),(3,[6]),(4,[]),(8,[]),(9,[]),(10,[]),(11,[])]) (none)
abbrev Yb (n:Nat):List (gj Int):=[⟨[0,0,1,1],[.code [1,0,1,1],.code [1,1,1]],[(2,aK),(3,aK)],λx=>mN n x.1 x.2⟩]
theorem Ps (n:Nat):oY TZp (IV n):=.cons (dq (l:=[⟨195,[],λa _=>eK n a.1 a.2⟩]) (.cons (λa c=>aT (by kernel_rfl) ((lh n) (a.1,a.2))) .nil) (λx a=>by kernel_rfl)) (.cons (dq (l:=[⟨195,[],λa _=>eK n a.1 a.2⟩]) (.cons (λa c=>aT (by kernel_rfl) ((lh n) (a.1,a.2))) .nil) (λx a=>by kernel_rfl)) .nil)
theorem M8 (n:Nat):kE TZp Tryz.f193 (Ds.e n) Ds.ws:=L2.ok Tryz.f193 Ds n C65 (dt:=IV) (dr:=Pq) (hT:=λm _=>⟨.nil,K65 m,(Ps m),.nil,.nil⟩)
theorem w9 (n:Nat):aP TZp (UK n):=bE Tryz.f193 (C65 n) (dl:=IV n) (ll:=[Ds.e n]) (dr:=Pq) (js:=Yb n) (hT:=⟨.nil,K65 n,(Ps n),(.cc (M8 n) .nil),(.cc .nil)⟩)
abbrev C66 (n:Nat):List bz:=UK n::C65 n
theorem K66 (n:Nat):aJ TZp (C66 n):=.cons (w9 n) (K65 n)
def oT (n:Nat)(a0 a1:Bool×Sl×Int):M Int:=sh (aO none bZ [.bool a0.1,aE a0.2.1,vi a0.2.2]) λx0=>sh (aO none bZ [.bool a1.1,aE a1.2.1,vi a1.2.2]) λx1=>sh (aq .bool ((ak x0).plus 0)) λ(x2:Bool)=>sh (aq .bool ((ak x1).plus 0)) λ(x3:Bool)=>if !x2==x3 then sh (aq .bool ((ak x0).plus 0)) λ(x4:Bool)=>if x4 then AI (-1) else AI 1 else sh (aI [.bool,.sl,li] (ak x0)) λ(x4:Bool×Sl×Int)=>sh (aI [.bool,.sl,li] (ak x1)) λ(x5:Bool×Sl×Int)=>sh (lZ n (x4.1,x4.2.1,x4.2.2) (x5.1,x5.2.1,x5.2.2)) λx6=>sh (rO n x6) λx7=>sh (aq .bool ((ak x0).plus 0)) λ(x8:Bool)=>if x8 then AI (i64.wrap (0-x7)) else AI x7
abbrev UL (n:Nat):bz:=⟨187,[.agg [.bool,.sl,.int .i64],.agg [.bool,.sl,.int .i64]],[aB],λx=>oT n x.1 x.2⟩
theorem zW (n:Nat):aP TZp (UL n):=bE Tryz.f187 (C66 n) (hT:=.m1 (K66 n))
abbrev C67 (n:Nat):List bz:=UL n::C66 n
theorem K67 (n:Nat):aJ TZp (C67 n):=.cons (zW n) (K66 n)
def uI (n:Nat)(a0 a1:ByteArray):M Int:=sh (nW n a0) λx0=>sh (aO none bZ [.bool false,aU,vi 0]) λx1=>sh (bG (ak x1) [.bool x0.1.1,aE x0.1.2.1,vi x0.1.2.2]) λx2=>sh (nW n a1) λx3=>sh (aO none bZ [.bool false,aU,vi 0]) λx4=>sh (bG (ak x4) [.bool x3.1.1,aE x3.1.2.1,vi x3.1.2.2]) λx5=>if !x0.2 then AI 0 else if !x3.2 then AI 0 else sh (aI [.bool,.sl,li] (ak x1)) λ(x6:Bool×Sl×Int)=>sh (aI [.bool,.sl,li] (ak x4)) λ(x7:Bool×Sl×Int)=>sh (oT n (x6.1,x6.2.1,x6.2.2) (x7.1,x7.2.1,x7.2.2)) λx8=>AI x8
abbrev UM (n:Nat):bz:=⟨171,[oe,oe],[aB],λx=>uI n x.1 x.2⟩
theorem Fb (n:Nat):aP TZp (UM n):=bE Tryz.f171 (C67 n) (hT:=.m1 (K67 n))
abbrev C68 (n:Nat):List bz:=UM n::C67 n
theorem K68 (n:Nat):aJ TZp (C68 n):=.cons (Fb n) (K67 n)
def u4 (n a0 a1:Nat):M (Int×Bool):=if Xk a0 a1 then AI (-1,true) else if Xa a0 a1 then AI (1,true) else AI (0,true)
def wu (n:Nat)(a0 a1:ByteArray):M (Int×Bool):=sh (lR n a0) λx0=>sh (lR n a1) λx1=>if !x0.2 then AI (0,false) else if !x1.2 then AI (0,false) else if !FU x0.1 x0.1 then AI (0,false) else if !FU x1.1 x1.1 then AI (0,false) else u4 n x0.1 x1.1
abbrev UN (n:Nat):bz:=⟨172,[oe,oe],[aB,jz],λx=>wu n x.1 x.2⟩
abbrev Yc (n:Nat):List (gj (Int×Bool)):=[⟨[0,1,1,0,0,1,1,1],[.code [1,1,1,0,0,1,1,1],.ar 0,.code [1,1,1,1]],[(6,.one (.f64)),(8,.one (.f64))],λx=>u4 n x.1 x.2⟩]
theorem Gk (n:Nat):aP TZp (UN n):=bE Tryz.f172 (C68 n) (js:=Yc n) (hT:=⟨.nil,K68 n,.nil,.nil,(.cc .nil)⟩)
abbrev C69 (n:Nat):List bz:=UN n::C68 n
theorem K69 (n:Nat):aJ TZp (C69 n):=.cons (Gk n) (K68 n)
def ln (n:Nat)(a0 a1:ByteArray):M Int:=sh (dK n a0 a1) λx0=>AI x0
abbrev UO (n:Nat):bz:=⟨188,[oe,oe],[aB],λx=>ln n x.1 x.2⟩
theorem tZ (n:Nat):aP TZp (UO n):=bE Tryz.f188 (C69 n) (hT:=.m1 (K69 n))
abbrev C70 (n:Nat):List bz:=UO n::C69 n
theorem K70 (n:Nat):aJ TZp (C70 n):=.cons (tZ n) (K69 n)
def strings_Compare (n:Nat)(a0 a1:ByteArray):M Int:=sh (ln n a0 a1) λx0=>AI x0
abbrev UP (n:Nat):bz:=⟨173,[oe,oe],[aB],λx=>strings_Compare n x.1 x.2⟩
theorem zX (n:Nat):aP TZp (UP n):=bE Tryz.f173 (C70 n) (hT:=.m1 (K70 n))
abbrev C71 (n:Nat):List bz:=UP n::C70 n
theorem K71 (n:Nat):aJ TZp (C71 n):=.cons (zX n) (K70 n)
def ta (n:Nat)(a0:Int)(a1 a2:ByteArray):M Int:=if mI a1 a2 then AI 0 else if decide (a0=2) then sh (uH n a1 a2) λx0=>AI x0 else if decide (a0=3) then sh (uI n a1 a2) λx0=>AI x0 else if decide (a0=4) then if mI a1 (ofBytes [110,97,110]) then AI 1 else if mI a2 (ofBytes [110,97,110]) then AI (-1) else sh (wu n a1 a2) λx0=>if !decide (x0.1=0) then AI x0.1 else if mI a1 (ofBytes [45,48,112,48]) then AI (-1) else AI 1 else sh (strings_Compare n a1 a2) λx0=>AI x0
abbrev UQ (n:Nat):bz:=⟨145,[aB,oe,oe],[aB],λx=>ta n x.1 x.2.1 x.2.2⟩
theorem Dc (n:Nat):aP TZp (UQ n):=bE Tryz.f145 (C71 n) (hT:=.m1 (K71 n))
abbrev C72 (n:Nat):List bz:=UQ n::C71 n
theorem K72 (n:Nat):aJ TZp (C72 n):=.cons (Dc n) (K71 n)
def oG (n:Nat)(a0:Int):M Int:=sh (fJ n a0) λx0=>AI x0
abbrev UR (n:Nat):bz:=⟨105,[.one (.int .u64)],[aB],λx=>oG n x⟩
theorem BU (n:Nat):aP TZp (UR n):=bE Tryz.f105 (C72 n) (hT:=.m1 (K72 n))
abbrev C73 (n:Nat):List bz:=UR n::C72 n
theorem K73 (n:Nat):aJ TZp (C73 n):=.cons (BU n) (K72 n)
def mO (n:Nat)(a0:Int):M Int:=sh (oG n (IntKind.u64.wrap a0)) λx0=>sh (kC (decide (0<=x0))) λx1=>AI (IntKind.u64.wrap (1*2^min (Int.toNat x0) 64))
abbrev US (n:Nat):bz:=⟨166,[aB],[.one (.int .u64)],λx=>mO n x⟩
theorem u5 (n:Nat):aP TZp (US n):=bE Tryz.f166 (C73 n) (hT:=.m1 (K73 n))
abbrev C74 (n:Nat):List bz:=US n::C73 n
theorem K74 (n:Nat):aJ TZp (C74 n):=.cons (u5 n) (K73 n)
def j6 (n:Nat)(a0:Option Addr):M Int:=sh (nn a0) λx0=>sh (nn a0) λx1=>sh (aq (.int IntKind.u64) x0) λ(x2:Int)=>sh (aq (.int IntKind.u64) x1) λ(x3:Int)=>sh (kC (decide (0<=13))) λx4=>sh (nn a0) λx5=>sh (bG x5 [.int IntKind.u64 (IntKind.u64.wrap (↑(BitVec.ofInt 64 x2^^^BitVec.ofInt 64 (IntKind.u64.wrap (x3*2^13))).toNat:Int))]) λx6=>sh (nn a0) λx7=>sh (nn a0) λx8=>sh (aq (.int IntKind.u64) x7) λ(x9:Int)=>sh (aq (.int IntKind.u64) x8) λ(x10:Int)=>sh (kC (decide (0<=7))) λx11=>sh (nn a0) λx12=>sh (bG x12 [.int IntKind.u64 (IntKind.u64.wrap (↑(BitVec.ofInt 64 x9^^^BitVec.ofInt 64 (Int.fdiv x10 (2^7))).toNat:Int))]) λx13=>sh (nn a0) λiK=>sh (nn a0) λx15=>sh (aq (.int IntKind.u64) iK) λ(po:Int)=>sh (aq (.int IntKind.u64) x15) λ(x17:Int)=>sh (kC (decide (0<=17))) λqH=>sh (nn a0) λx19=>sh (bG x19 [.int IntKind.u64 (IntKind.u64.wrap (↑(BitVec.ofInt 64 po^^^BitVec.ofInt 64 (IntKind.u64.wrap (x17*2^17))).toNat:Int))]) λx20=>sh (nn a0) λx21=>sh (aq (.int IntKind.u64) x21) λ(x22:Int)=>AI x22
abbrev UT (n:Nat):bz:=⟨167,[tA],[.one (.int .u64)],λx=>j6 n x⟩
def Yd (i:Nat):Option (List (Nat×List Nat)):=cond (Nat.beq i 1) (some [(0,[]),(1,[]),(3,[]),(4,[]),(2,[]),(5,[]),(6,[]),(7,[]),(8,[]),(9,[])]) (cond (Nat.beq i 2) (some [(0,[]),(1,[]),(3,[]),(4,[]),(2,[]),(5,[]),(6,[]),(7,[]),(8,[]),(9,[])]) (cond (Nat.beq i 3) (some [(0,[]),(1,[]),(3,[]),(4,[]),(2,[]),(5,[]),(6,[]),(7,[]),(8,[]),(9,[])]) (none)))
theorem vu (n:Nat):aP TZp (UT n):=bE Tryz.f167 (C74 n) (dr:=Yd) (hT:=.m1 (K74 n))
abbrev C75 (n:Nat):List bz:=UT n::C74 n
theorem K75 (n:Nat):aJ TZp (C75 n):=.cons (vu n) (K74 n)
def bY (G:Sl->Int->Int->Addr->Int->Int->M Unit)(n:Nat)(a0:Sl)(a1 a2:Int)(a3:Addr)(a4 a5 a6:Int):M Unit:=sh (av a0 (i64.wrap (a1+a6)) 1) λx0=>sh (av a0 a5 1) λx1=>sh (aq li x0) λ(x2:Int)=>sh (aq li x1) λ(x3:Int)=>sh (av a0 a5 1) λx4=>sh (bG x4 [vi x2]) λx5=>sh (av a0 (i64.wrap (a1+a6)) 1) λx6=>sh (bG x6 [vi x3]) λx7=>G a0 a1 a2 a3 a4 (i64.wrap (a5+1))
def cq (G:Sl->Int->Int->Addr->Int->Int->M Unit)(n:Nat)(a0:Sl)(a1 a2:Int)(a3:Addr)(a4 a5:Int):M Unit:=sh (kC (decide (4≠0))) λx0=>if decide (a5<=i64.wrap (i64.wrap (a1+i64.wrap (i64.wrap (a2.tdiv 4)*2))+1)) then sh (j6 n (some a3)) λx1=>if decide (a2<=i64.wrap (IntKind.u64.wrap (↑(BitVec.ofInt 64 x1&&&BitVec.ofInt 64 (IntKind.u64.wrap (a4-1))).toNat:Int))) then bY G n a0 a1 a2 a3 a4 a5 (i64.wrap (i64.wrap (IntKind.u64.wrap (↑(BitVec.ofInt 64 x1&&&BitVec.ofInt 64 (IntKind.u64.wrap (a4-1))).toNat:Int))-a2)) else bY G n a0 a1 a2 a3 a4 a5 (i64.wrap (IntKind.u64.wrap (↑(BitVec.ofInt 64 x1&&&BitVec.ofInt 64 (IntKind.u64.wrap (a4-1))).toNat:Int))) else AI ()
def bf:Nat->Sl->Int->Int->Addr->Int->Int->M Unit|0=>λ_ _ _ _ _ _=>AS|n+1=>cq (bf n) n
def nZ (n:Nat):=bY (bf n) n
def eH (n:Nat)(a0:Sl)(a1 a2:Int)(a3:Value):M Unit:=if decide (8<=i64.wrap (a2-a1)) then sh (aO none uE [.int IntKind.u64 0]) λx0=>sh (bG (ak x0) [.int IntKind.u64 (IntKind.u64.wrap (i64.wrap (a2-a1)))]) λx1=>sh (mO n (i64.wrap (a2-a1))) λx2=>sh (kC (decide (4≠0))) λx3=>sh (bf n a0 a1 (i64.wrap (a2-a1)) (ak x0) x2 (i64.wrap (i64.wrap (a1+i64.wrap (i64.wrap ((i64.wrap (a2-a1)).tdiv 4)*2))-1))) λx4=>AI () else AI ()
abbrev UU (n:Nat):bz:=⟨138,[cJ,aB,aB,rW],[],λx=>eH n x.1 x.2.1 x.2.2.1 x.2.2.2⟩
abbrev Dt:L1:=⟨[0,1,1,1,0,1,1],[(0,cJ),(1,aB),(8,aB),(9,aK),(10,.one (.int .u64)),(11,aB)],[],[11,12]++List.range' 28 39,0,λn x=>bf n x.1 x.2.1 x.2.2.1 x.2.2.2.1 x.2.2.2.2.1 x.2.2.2.2.2⟩
def Pt (i:Nat):Option (List (Nat×List Nat)):=cond (Nat.beq i 10) (some [(0,[]),(1,[]),(2,[]),(3,[]),(4,[]),(5,[]),(6,[]),(7,[]),(8,[]),(9,[]),(10,[]),(12,[]),(13,[]),(14,[]),(11,[]),(15,[]),(16,[]),(17,[]),(18,[]),(19,[])]) (none)
abbrev M9 (n:Nat):List (gj Unit):=[⟨[1,1,0,0,1,0,0,1,1,1,0,1,1],[.ar 1,.code [1,1,0,0,1,1,1,0,1,1]],[(0,cJ),(1,aB),(8,aB),(9,aK),(10,.one (.int .u64)),(11,aB),(12,aB)],λx=>nZ n x.1 x.2.1 x.2.2.1 x.2.2.2.1 x.2.2.2.2.1 x.2.2.2.2.2.1 x.2.2.2.2.2.2⟩]
theorem Nc (n:Nat):kE TZp Tryz.f138 (Dt.e n) Dt.ws:=L1.ok Tryz.f138 Dt n C75 (dr:=Pt) (jt:=M9) (hT:=λm _=>⟨.nil,K75 m,.nil,.nil,(.cc .nil)⟩)
theorem o9 (n:Nat):aP TZp (UU n):=bE Tryz.f138 (C75 n) (ll:=[Dt.e n]) (dr:=Pt) (hT:=⟨.nil,K75 n,.nil,(.cc (Nc n) .nil),.nil⟩)
abbrev C76 (n:Nat):List bz:=UU n::C75 n
theorem K76 (n:Nat):aJ TZp (C76 n):=.cons (o9 n) (K75 n)
def cB (G:Sl->Int->Int->M Unit)(n:Nat)(a0:Sl)(a1 a2:Int):M Unit:=if decide (a1<a2) then sh (av a0 a2 1) λx0=>sh (av a0 a1 1) λx1=>sh (aq li x0) λ(x2:Int)=>sh (aq li x1) λ(x3:Int)=>sh (av a0 a1 1) λx4=>sh (bG x4 [vi x2]) λx5=>sh (av a0 a2 1) λx6=>sh (bG x6 [vi x3]) λx7=>G a0 (i64.wrap (a1+1)) (i64.wrap (a2-1)) else AI ()
def b6:Nat->Sl->Int->Int->M Unit|0=>λ_ _ _=>AS|n+1=>cB (b6 n) n
def eV (n:Nat)(a0:Sl)(a1 a2:Int)(a3:Value):M Unit:=sh (b6 n a0 a1 (i64.wrap (a2-1))) λx0=>AI ()
abbrev UW (n:Nat):bz:=⟨140,[cJ,aB,aB,rW],[],λx=>eV n x.1 x.2.1 x.2.2.1 x.2.2.2⟩
abbrev Du:L1:=⟨[0,1,1],[(0,cJ),(8,aB),(9,aB)],[],[8,9]++List.range' 13 21,0,λn x=>b6 n x.1 x.2.1 x.2.2⟩
def Pv (i:Nat):Option (List (Nat×List Nat)):=cond (Nat.beq i 3) (some [(0,[]),(1,[]),(2,[]),(3,[]),(4,[]),(5,[]),(6,[]),(8,[]),(9,[]),(10,[]),(7,[]),(11,[]),(12,[]),(13,[]),(14,[]),(15,[])]) (none)
theorem Nd (n:Nat):kE TZp Tryz.f140 (Du.e n) Du.ws:=L1.ok Tryz.f140 Du n C76 (dr:=Pv) (hT:=λm _=>.m1 (K76 m))
theorem py (n:Nat):aP TZp (UW n):=bE Tryz.f140 (C76 n) (ll:=[Du.e n]) (dr:=Pv) (hT:=⟨.nil,K76 n,.nil,(.cc (Nd n) .nil),.nil⟩)
abbrev C77 (n:Nat):List bz:=UW n::C76 n
theorem K77 (n:Nat):aJ TZp (C77 n):=.cons (py n) (K76 n)
end Go.Sh
