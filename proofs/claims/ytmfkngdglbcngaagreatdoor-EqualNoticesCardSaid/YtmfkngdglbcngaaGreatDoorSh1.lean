
import Derived.Test.YtmfkngdglbcngaaGreatDoorSh0
set_option linter.all false
set_option maxRecDepth 100000
set_option maxHeartbeats 0
namespace Go.Sh
open Go Go.Ago Go.Proofs Go.IntKind
def tX (n:Nat)(a0:Int)(a1:ζ):M Bool:=if decide (a0=0) then AI (mX a1 (ofBytes [])) else if decide (a0=1) then if mX a1 (ofBytes [116,114,117,101]) then AI true else AI (mX a1 (ofBytes [102,97,108,115,101])) else if decide (a0=2) then sh (pc n a1) λx0=>AI x0 else if decide (a0=3) then sh (sC n a1) λx0=>AI x0 else if decide (a0=4) then sh (qy n a1) λx0=>AI x0 else if decide (a0=5) then sh (px n a1) λx0=>AI (decide (x0.2=0)) else if decide (a0=6) then AI true else if decide (a0=7) then sh (mS n a1) λx0=>if decide (x0.2=0) then AI (mX x0.1 a1) else AI false else if decide (a0=8) then sh (pd n a1) λx0=>AI !decide (x0=0) else AI false
abbrev abh (n:Nat):bB:=⟨21,[aC,oS],[jT],υ2 (tX n)⟩
theorem DZ (n:Nat):aP TZp (abh n):=bG Tryz.f21 (C50 n) (hT:=.m1 (K50 n))
abbrev C51 (n:Nat):List bB:=abh n::C50 n
theorem K51 (n:Nat):aI TZp (C51 n):=.cons (DZ n) (K50 n)
def xc (n:Nat)(a0:Int×ζ×Bool×Sl×Sl):M Bool:=sh (aM none az [vi a0.1,.string a0.2.1,.bool a0.2.2.1,aH a0.2.2.2.1,aH a0.2.2.2.2]) λx0=>sh (ar li ((an x0).plus 0)) λ(x1:Int)=>if decide (x1=9) then sh (ar .str ((an x0).plus 1)) λ(x2:ζ)=>if mX x2 (ofBytes []) then sh (ar .bool ((an x0).plus 2)) λ(x3:Bool)=>if !x3 then sh (ar .sl ((an x0).plus 3)) λ(x4:Sl)=>AI (decide ((↑x4.len:Int)=0)) else AI false else AI false else if decide (x1=10) then sh (ar .str ((an x0).plus 1)) λ(x2:ζ)=>if mX x2 (ofBytes []) then sh (ar .sl ((an x0).plus 3)) λ(x3:Sl)=>sh (ar .sl ((an x0).plus 4)) λ(x4:Sl)=>AI (decide ((↑x3.len:Int)=(↑x4.len:Int))) else AI false else if decide (x1=11) then sh (ar .str ((an x0).plus 1)) λ(x2:ζ)=>sh (w4 n x2) λx3=>if x3 then sh (ar .bool ((an x0).plus 2)) λ(x4:Bool)=>if !x4 then sh (ar .sl ((an x0).plus 3)) λ(x5:Sl)=>if decide ((↑x5.len:Int)=0) then sh (ar .sl ((an x0).plus 4)) λ(x6:Sl)=>AI (decide ((↑x6.len:Int)=1)) else AI false else AI false else AI false else sh (ar .bool ((an x0).plus 2)) λ(x2:Bool)=>if !x2 then sh (ar .sl ((an x0).plus 3)) λ(x3:Sl)=>if decide ((↑x3.len:Int)=0) then sh (ar .sl ((an x0).plus 4)) λ(x4:Sl)=>if decide ((↑x4.len:Int)=0) then sh (ar li ((an x0).plus 0)) λ(x5:Int)=>sh (ar .str ((an x0).plus 1)) λ(x6:ζ)=>sh (tX n x5 x6) λx7=>AI x7 else AI false else AI false else AI false
abbrev abj (n:Nat):bB:=⟨13,[.agg [.int .i64,.str,.bool,.sl,.sl]],[jT],λx=>xc n x⟩
theorem He (n:Nat):aP TZp (abj n):=bG Tryz.f13 (C51 n) (hT:=.m1 (K51 n))
abbrev C52 (n:Nat):List bB:=abj n::C51 n
theorem K52 (n:Nat):aI TZp (C52 n):=.cons (He n) (K51 n)
def qz (G:Sl->Addr->Sl->Int->Int->Sl->Int->Int->M Unit)(n:Nat)(a0:Sl)(a1:Addr)(a2:Sl)(a3 a4:Int)(a5:Sl)(a6 a7:Int):M Unit:=if decide (a7<a6) then sh (aw a5 a7 1) λx0=>sh (ar li x0) λ(x1:Int)=>sh (aw a0 x1 1) λx2=>sh (ar li x2) λ(x3:Int)=>sh (aw a0 x1 1) λx4=>sh (bF x4 [vi (i64.wrap (x3+1))]) λx5=>G a0 a1 a2 a3 a4 a5 a6 (i64.wrap (a7+1)) else AI ()
def j6:Nat->Sl->Addr->Sl->Int->Int->Sl->Int->Int->M Unit|0=>λ_ _ _ _ _ _ _ _=>AS|n+1=>qz (j6 n) n
theorem yM (n:Nat):j6 (n+1)=qz (j6 n) n:=rfl
def qA (G:Sl->Sl->Int->Int->Sl->Int->Int->M Unit)(n:Nat)(a0 a1:Sl)(a2 a3:Int)(a4:Sl)(a5 a6:Int):M Unit:=if decide (a6<a5) then sh (aw a4 a6 1) λx0=>sh (ar li x0) λ(x1:Int)=>sh (aw a0 x1 1) λx2=>sh (ar li x2) λ(x3:Int)=>sh (aw a0 x1 1) λx4=>sh (bF x4 [vi (i64.wrap (x3+1))]) λx5=>G a0 a1 a2 a3 a4 a5 (i64.wrap (a6+1)) else AI ()
def j7:Nat->Sl->Sl->Int->Int->Sl->Int->Int->M Unit|0=>λ_ _ _ _ _ _ _=>AS|n+1=>qA (j7 n) n
theorem yN (n:Nat):j7 (n+1)=qA (j7 n) n:=rfl
def qB (G:Sl->Sl->Int->Int->M Unit)(n:Nat)(a0 a1:Sl)(a2 a3:Int):M Unit:=if decide (a3<a2) then sh (aw a1 a3 5) λx0=>sh (aN [li,.str,.bool,.sl,.sl] x0) λ(x1:Int×ζ×Bool×Sl×Sl)=>sh (aM none az [vi 0,.string (ofBytes []),.bool false,aT,aT]) λx2=>sh (bF (an x2) [vi x1.1,.string x1.2.1,.bool x1.2.2.1,aH x1.2.2.2.1,aH x1.2.2.2.2]) λx3=>sh (ar .sl ((an x2).plus 3)) λ(x4:Sl)=>sh (j6 n a0 (an x2) a1 a2 a3 x4 (↑x4.len:Int) 0) λx5=>sh (ar .sl ((an x2).plus 4)) λ(x6:Sl)=>sh (j7 n a0 a1 a2 a3 x6 (↑x6.len:Int) 0) λx7=>G a0 a1 a2 (i64.wrap (a3+1)) else AI ()
def j8:Nat->Sl->Sl->Int->Int->M Unit|0=>λ_ _ _ _=>AS|n+1=>qB (j8 n) n
theorem yO (n:Nat):j8 (n+1)=qB (j8 n) n:=rfl
def tY (n:Nat)(a0:Sl×Int):M Sl:=sh (aM none aj [aH a0.1,vi a0.2]) λx0=>sh (ar .sl ((an x0).plus 0)) λ(x1:Sl)=>sh (vS none av [vi 0] (↑x1.len:Int) (↑x1.len:Int)) λx2=>sh (ar li ((an x0).plus 1)) λ(x3:Int)=>sh (aw x2 x3 1) λx4=>sh (ar li x4) λ(x5:Int)=>sh (aw x2 x3 1) λx6=>sh (bF x6 [vi (i64.wrap (x5+1))]) λx7=>sh (ar .sl ((an x0).plus 0)) λ(x8:Sl)=>sh (j8 n x2 x8 (↑x8.len:Int) 0) λx9=>AI x2
abbrev abk (n:Nat):bB:=⟨14,[.agg [.sl,.int .i64]],[cN],λx=>tY n x⟩
abbrev Jk:L1:=⟨[0,1,0,1,1,1],[(3,cN),(22,cN),(23,aC),(24,aC)],[],[5,7,9]++List.range' 24 33,0,λn=>υ4 (j8 n)⟩
abbrev Jl:L1:=⟨[0,1,0,1,0,0,1,1,0,0,1,0,1,1,1],[(3,cN),(5,aJ),(22,cN),(23,aC),(24,aC),(29,cN),(30,aC),(31,aC)],[],[7]++List.range' 31 11,2,λn=>υ8 (j6 n)⟩
abbrev Jm:L1:=⟨[0,1,1,1,0,0,1,1,0,0,1,0,1,1,1],[(3,cN),(22,cN),(23,aC),(24,aC),(43,cN),(44,aC),(45,aC)],[],[9]++List.range' 45 11,4,λn=>υ7 (j7 n)⟩
theorem Ss (n:Nat):kZ TZp Tryz.f14 (Jl.e n) Jl.ws:=L1.ok Tryz.f14 Jl n C52 (hT:=λm _=>.m1 (K52 m))
theorem Su (n:Nat):kZ TZp Tryz.f14 (Jm.e n) Jm.ws:=L1.ok Tryz.f14 Jm n C52 (hT:=λm _=>.m1 (K52 m))
theorem Sv (n:Nat):kZ TZp Tryz.f14 (Jk.e n) Jk.ws:=L1.ok Tryz.f14 Jk n C52 (lt:=λn=>[Jl.e n,Jm.e n]) (hT:=λm _=>⟨.nil,K52 m,.nil,(.cc (Ss m) (.cc (Su m) .nil)),.nil⟩)
theorem D0 (n:Nat):aP TZp (abk n):=bG Tryz.f14 (C52 n) (ll:=[Jk.e n]) (hT:=⟨.nil,K52 n,.nil,(.cc (Sv n) .nil),.nil⟩)
abbrev C53 (n:Nat):List bB:=abk n::C52 n
theorem K53 (n:Nat):aI TZp (C53 n):=.cons (D0 n) (K52 n)
def qC (G:Addr->Sl->Sl->Int->Int->Sl->Int->Int->M Unit)(n:Nat)(a0:Addr)(a1 a2:Sl)(a3 a4:Int)(a5:Sl)(a6 a7:Int):M Unit:=if decide (a7<a6) then sh (aw a5 a7 1) λx0=>sh (ar li x0) λ(x1:Int)=>sh (aN [.sl,li] a0) λ(x2:Sl×Int)=>sh (nf n (x2.1,x2.2) x1 a1) λx3=>G a0 a1 a2 a3 a4 a5 a6 (i64.wrap (a7+1)) else AI ()
def j9:Nat->Addr->Sl->Sl->Int->Int->Sl->Int->Int->M Unit|0=>λ_ _ _ _ _ _ _ _=>AS|n+1=>qC (j9 n) n
theorem yP (n:Nat):j9 (n+1)=qC (j9 n) n:=rfl
def qD (G:Addr->Sl->Sl->Int->Int->M Unit)(n:Nat)(a0:Addr)(a1 a2:Sl)(a3 a4:Int):M Unit:=if decide (a4<a3) then sh (aw a2 a4 5) λx0=>sh (aN [li,.str,.bool,.sl,.sl] x0) λ(x1:Int×ζ×Bool×Sl×Sl)=>sh (aM none az [vi 0,.string (ofBytes []),.bool false,aT,aT]) λx2=>sh (bF (an x2) [vi x1.1,.string x1.2.1,.bool x1.2.2.1,aH x1.2.2.2.1,aH x1.2.2.2.2]) λx3=>sh (ar .sl ((an x2).plus 3)) λ(x4:Sl)=>sh (j9 n a0 a1 a2 a3 a4 x4 (↑x4.len:Int) 0) λx5=>G a0 a1 a2 a3 (i64.wrap (a4+1)) else AI ()
def ke:Nat->Addr->Sl->Sl->Int->Int->M Unit|0=>λ_ _ _ _ _=>AS|n+1=>qD (ke n) n
theorem yQ (n:Nat):ke (n+1)=qD (ke n) n:=rfl
def tZ (n:Nat)(a0:Sl×Int):M Sl:=sh (aM none aj [aH a0.1,vi a0.2]) λx0=>sh (ar .sl ((an x0).plus 0)) λ(x1:Sl)=>sh (vS none vG [.bool false] (↑x1.len:Int) (↑x1.len:Int)) λx2=>sh (ar .sl ((an x0).plus 0)) λ(x3:Sl)=>sh (ke n (an x0) x2 x3 (↑x3.len:Int) 0) λx4=>AI x2
abbrev abl (n:Nat):bB:=⟨15,[.agg [.sl,.int .i64]],[cN],λx=>tZ n x⟩
abbrev Jn:L1:=⟨[0,1,0,1,1],[(1,aJ),(3,cN),(13,cN),(14,aC),(15,aC)],[],[5,7]++List.range' 15 17,0,λn=>υ5 (ke n)⟩
abbrev Jo:L1:=⟨[0,1,1,0,0,1,1,0,0,1,0,1,1],[(1,aJ),(3,cN),(13,cN),(14,aC),(15,aC),(20,cN),(21,aC),(22,aC)],[],[7]++List.range' 22 9,2,λn=>υ8 (j9 n)⟩
theorem Sw (n:Nat):kZ TZp Tryz.f15 (Jo.e n) Jo.ws:=L1.ok Tryz.f15 Jo n C53 (hT:=λm _=>.m1 (K53 m))
theorem Sx (n:Nat):kZ TZp Tryz.f15 (Jn.e n) Jn.ws:=L1.ok Tryz.f15 Jn n C53 (lt:=λn=>[Jo.e n]) (hT:=λm _=>⟨.nil,K53 m,.nil,(.cc (Sw m) .nil),.nil⟩)
theorem D1 (n:Nat):aP TZp (abl n):=bG Tryz.f15 (C53 n) (ll:=[Jn.e n]) (hT:=⟨.nil,K53 n,.nil,(.cc (Sx n) .nil),.nil⟩)
abbrev C54 (n:Nat):List bB:=abl n::C53 n
theorem K54 (n:Nat):aI TZp (C54 n):=.cons (D1 n) (K53 n)
structure bI where
 ic:Addr->Addr->Addr->Int->Int->Bool->Sl->Int->Int->Sl->Int->Int->M Bool
 kP:Addr->Addr->Addr->Sl->Int->Int->M (Unit⊕Bool)
 gH:Addr->Addr->Addr->Int->Int->M (Unit⊕Bool)
 iS:(Sl×Int)->Int->Int->M Bool
def tg (G:bI)(n:Nat)(a0 a1 a2:Addr)(a3 a4:Int)(a5:Bool)(a6:Sl)(a7 a8:Int)(a9:Sl)(a10 a11:Int):M Bool:=if decide (a11<a10) then sh (aw a9 a11 1) λx0=>sh (ar li x0) λ(x1:Int)=>if a5 then G.ic a0 a1 a2 a3 a4 true a6 a7 a8 a9 a10 (i64.wrap (a11+1)) else sh (aN [.sl,li] a0) λ(x2:Sl×Int)=>sh (G.iS (x2.1,x2.2) a4 x1) λx3=>if x3 then sh (aN [.sl,li] a0) λ(x4:Sl×Int)=>sh (ar .sl (a1.plus 4)) λ(x5:Sl)=>sh (aw x5 a3 1) λx6=>sh (ar li x6) λ(x7:Int)=>sh (ar .sl (a2.plus 4)) λ(x8:Sl)=>sh (aw x8 a11 1) λx9=>sh (ar li x9) λ(x10:Int)=>sh (G.iS (x4.1,x4.2) x7 x10) λx11=>G.ic a0 a1 a2 a3 a4 x11 a6 a7 a8 a9 a10 (i64.wrap (a11+1)) else G.ic a0 a1 a2 a3 a4 false a6 a7 a8 a9 a10 (i64.wrap (a11+1)) else AI a5
def th (G:bI)(n:Nat)(a0 a1 a2:Addr)(a3:Sl)(a4 a5:Int):M (Unit⊕Bool):=if decide (a5<a4) then sh (aw a3 a5 1) λx0=>sh (ar li x0) λ(x1:Int)=>sh (ar .sl (a2.plus 3)) λ(x2:Sl)=>sh (G.ic a0 a1 a2 a5 x1 false a3 a4 a5 x2 (↑x2.len:Int) 0) λx3=>if !x3 then AI (Sum.inr false) else G.kP a0 a1 a2 a3 a4 (i64.wrap (a5+1)) else AI (Sum.inl ())
def tj (G:bI)(n:Nat)(a0 a1 a2:Addr)(a3 a4:Int):M (Unit⊕Bool):=if decide (a4<a3) then sh (ar li (a1.plus 0)) λ(x0:Int)=>if decide (x0=10) then sh (aN [.sl,li] a0) λ(x1:Sl×Int)=>sh (ar .sl (a1.plus 3)) λ(x2:Sl)=>sh (aw x2 a4 1) λx3=>sh (ar li x3) λ(x4:Int)=>sh (ar .sl (a2.plus 3)) λ(x5:Sl)=>sh (aw x5 a4 1) λx6=>sh (ar li x6) λ(x7:Int)=>sh (G.iS (x1.1,x1.2) x4 x7) λx8=>if !x8 then AI (Sum.inr false) else sh (aN [.sl,li] a0) λ(x9:Sl×Int)=>sh (ar .sl (a1.plus 4)) λ(x10:Sl)=>sh (aw x10 a4 1) λx11=>sh (ar li x11) λ(x12:Int)=>sh (ar .sl (a2.plus 4)) λ(x13:Sl)=>sh (aw x13 a4 1) λiY=>sh (ar li iY) λ(x15:Int)=>sh (G.iS (x9.1,x9.2) x12 x15) λpT=>if !pT then AI (Sum.inr false) else G.gH a0 a1 a2 a3 (i64.wrap (a4+1)) else sh (aN [.sl,li] a0) λ(x1:Sl×Int)=>sh (ar .sl (a1.plus 4)) λ(x2:Sl)=>sh (aw x2 a4 1) λx3=>sh (ar li x3) λ(x4:Int)=>sh (ar .sl (a2.plus 4)) λ(x5:Sl)=>sh (aw x5 a4 1) λx6=>sh (ar li x6) λ(x7:Int)=>sh (G.iS (x1.1,x1.2) x4 x7) λx8=>if !x8 then AI (Sum.inr false) else G.gH a0 a1 a2 a3 (i64.wrap (a4+1)) else AI (Sum.inl ())
def tn (G:bI)(n:Nat)(a0 a1 a2:Addr):M Bool:=sh (ar li (a1.plus 0)) λ(x0:Int)=>if decide (x0=10) then sh (ar .bool (a1.plus 2)) λ(x1:Bool)=>if !x1 then sh (ar .sl (a1.plus 3)) λ(x2:Sl)=>sh (G.kP a0 a1 a2 x2 (↑x2.len:Int) 0) (cY (λx3=>AI true) (λx3=>AI x3)) else sh (ar .sl (a1.plus 4)) λ(x2:Sl)=>sh (G.gH a0 a1 a2 (↑x2.len:Int) 0) (cY (λx3=>AI true) (λx3=>AI x3)) else sh (ar .sl (a1.plus 4)) λ(x1:Sl)=>sh (G.gH a0 a1 a2 (↑x1.len:Int) 0) (cY (λx2=>AI true) (λx2=>AI x2))
def xd (G:bI)(n:Nat)(a0:Sl×Int)(a1 a2:Int):M Bool:=sh (aM none aj [aH a0.1,vi a0.2]) λx0=>sh (eC 14) λx1=>sh (ar .sl ((an x0).plus 0)) λ(x2:Sl)=>sh (aw x2 a1 5) λx3=>sh (aN [li,.str,.bool,.sl,.sl] x3) λ(x4:Int×ζ×Bool×Sl×Sl)=>sh (ar .sl ((an x0).plus 0)) λ(x5:Sl)=>sh (aw x5 a2 5) λx6=>sh (aN [li,.str,.bool,.sl,.sl] x6) λ(x7:Int×ζ×Bool×Sl×Sl)=>sh (aM (some (x1+10)) az [vi 0,.string (ofBytes []),.bool false,aT,aT]) λx8=>sh (aM (some (x1+11)) az [vi 0,.string (ofBytes []),.bool false,aT,aT]) λx9=>sh (mY [some ((an x0).plus 0),some x6] (bF (an x8) [vi x4.1,.string x4.2.1,.bool x4.2.2.1,aH x4.2.2.2.1,aH x4.2.2.2.2])) λx10=>sh (bF (an x9) [vi x7.1,.string x7.2.1,.bool x7.2.2.1,aH x7.2.2.2.1,aH x7.2.2.2.2]) λx11=>sh (ar li ((an x8).plus 0)) λ(x12:Int)=>sh (ar li ((an x9).plus 0)) λ(x13:Int)=>if !decide (x12=x13) then AI false else sh (ar .str ((an x8).plus 1)) λ(iY:ζ)=>sh (ar .str ((an x9).plus 1)) λ(x15:ζ)=>if !mX iY x15 then AI false else sh (ar .bool ((an x8).plus 2)) λ(pT:Bool)=>sh (ar .bool ((an x9).plus 2)) λ(x17:Bool)=>if !pT==x17 then AI false else sh (ar .sl ((an x8).plus 4)) λ(rF:Sl)=>sh (ar .sl ((an x9).plus 4)) λ(x19:Sl)=>if !decide ((↑rF.len:Int)=(↑x19.len:Int)) then AI false else tn G n (an x0) (an x8) (an x9)
def bI.at:Nat->bI|0=>⟨λ_ _ _ _ _ _ _ _ _ _ _ _=>AS,λ_ _ _ _ _ _=>AS,λ_ _ _ _ _=>AS,λ_ _ _=>AS⟩|n+1=>⟨tg (bI.at n) n,th (bI.at n) n,tj (bI.at n) n,xd (bI.at n) n⟩
def ic (n:Nat):=(bI.at n).ic
theorem AJ (n:Nat):ic (n+1)=tg (bI.at n) n:=rfl
def kP (n:Nat):=(bI.at n).kP
theorem AK (n:Nat):kP (n+1)=th (bI.at n) n:=rfl
def gH (n:Nat):=(bI.at n).gH
theorem AL (n:Nat):gH (n+1)=tj (bI.at n) n:=rfl
def iS (n:Nat):=(bI.at n).iS
theorem D2 (n:Nat):iS (n+1)=xd (bI.at n) n:=rfl
def Hf (n:Nat):=tn (bI.at n) n
abbrev Vk (n:Nat):bB:=⟨22,[.agg [.sl,.int .i64],aC,aC],[jT],υ3 (iS n)⟩
abbrev Jp:L2:=⟨[0,1,0,0,1,0,1,1,1],[(3,aJ),(7,aJ),(8,aJ),(62,cN),(63,aC),(64,aC)],[],[(6,jT)],[6]++List.range' 9 5++List.range' 64 38,0,.ret,λn=>υ6 (kP n)⟩
abbrev Jq:L1:=⟨[0,1,0,1,1,0,0,1,1,0,0,1,0,0,1,0,1,1,1],[(3,aJ),(7,aJ),(8,aJ),(9,aC),(10,aC),(11,jT),(62,cN),(63,aC),(64,aC),(70,cN),(71,aC),(72,aC)],[(11,jT)],[11,12,13]++List.range' 72 27,2,λn=>υ12 (ic n)⟩
abbrev Jr:L2:=⟨[0,1,0,1,1,1,1],[(3,aJ),(7,aJ),(8,aJ),(104,aC),(105,aC)],[],[(6,jT)],[6,14]++List.range' 105 37,4,.ret,λn=>υ5 (gH n)⟩
abbrev Vl (n:Nat):List bB:=Vk n::C54 n
def Js (i:Nat):Option (List (Nat×η)):=Κ i 1 (Ω [0,2,5,7,1,3,4,6,8,9,10,11]++[(12,[6,9])]++Ω [13]) (Κ i 12 (Ω [0,1,3,4,2,5,6,8,10,13,15,7,9,11,12,14,16,17,18,19,20,21]) (Κ i 21 (Ω [0,1,2,3,5,7,10,12,4,6,8,9,11,13,14,15,16,17,18,20,22,25,27,19,21,23,24,26,28,29,30,31,32]) none))
abbrev acT (n:Nat):List (gC Bool):=[⟨[0,0,1,1,1],[.code [1,0,1,1,1],.code [1,1,1,1]],[(3,aJ),(7,aJ),(8,aJ)],υ3 (Hf n)⟩]
def oJ (n:Nat):Prop:=aP TZp (Vk n)
theorem Ml (n:Nat)(H:oJ n):aI TZp (Vl n):=.cons H (K54 n)
theorem Sy (n:Nat)(H:∀m,m<n->oJ m):kZ TZp Tryz.f22 (Jq.e n) Jq.ws:=L1.ok Tryz.f22 Jq n Vl (dr:=Js) (hT:=λm hm=>.m1 (Ml m (H m hm)))
theorem Sz (n:Nat)(H:∀m,m<n->oJ m):kZ TZp Tryz.f22 (Jp.e n) Jp.ws:=L2.ok Tryz.f22 Jp n Vl (lt:=λn=>[Jq.e n]) (dr:=Js) (hT:=λm hm=>⟨.nil,Ml m (H m hm),.nil,(.cc (Sy m (λk hk=>H k (agH hk hm))) .nil),.nil⟩)
theorem SA (n:Nat)(H:∀m,m<n->oJ m):kZ TZp Tryz.f22 (Jr.e n) Jr.ws:=L2.ok Tryz.f22 Jr n Vl (dr:=Js) (hT:=λm hm=>.m1 (Ml m (H m hm)))
theorem AM (n:Nat)(H:∀m,m<n+1->oJ m):aP TZp (Vk (n+1)):=bG Tryz.f22 (Vl n) (ll:=[Jp.e n,Jr.e n]) (dr:=Js) (js:=acT n) (hT:=⟨.nil,Ml n (H n (aam n)),.nil,(.cc (Sz n (λk hk=>H k (ab8 hk))) (.cc (SA n (λk hk=>H k (ab8 hk))) .nil)),(.cc .nil)⟩)
theorem CF:∀n m,m<n->oJ m:=by
 intro n
 induction n with
 |zero=>intro m hm;exact absurd hm (agI m)
 |succ n ih=>
  intro m hm;cases m with
  |zero=>exact gu (fn:=Tryz.f22) (by kernel_rfl) (by kernel_rfl) (by kernel_rfl) (λ_=>rfl)
  |succ k=>exact AM k λm hm=>ih m (by omega)
theorem K55 (n:Nat):aI TZp (Vl n):=Ml n (CF (n+1) n (aam n))
def rP (G:Addr->μ->Int->Addr->Sl->Int->Int->Sl->Int->Int->Sl->Int->Int->M (Unit⊕Bool))(n:Nat)(a0:Addr)(a1:μ)(a2:Int)(a3:Addr)(a4:Sl)(a5 a6:Int)(a7:Sl)(a8 a9:Int)(a10:Sl)(a11 a12:Int):M (Unit⊕Bool):=if decide (a12<a11) then sh (aw a10 a12 1) λx0=>sh (ar li x0) λ(x1:Int)=>sh (aN [.sl,li] a0) λ(x2:Sl×Int)=>sh (iS n (x2.1,x2.2) a2 x1) λx3=>if x3 then AI (Sum.inr true) else G a0 a1 a2 a3 a4 a5 a6 a7 a8 a9 a10 a11 (i64.wrap (a12+1)) else AI (Sum.inl ())
def lF:Nat->Addr->μ->Int->Addr->Sl->Int->Int->Sl->Int->Int->Sl->Int->Int->M (Unit⊕Bool)|0=>λ_ _ _ _ _ _ _ _ _ _ _ _ _=>AS|n+1=>rP (lF n) n
theorem zN (n:Nat):lF (n+1)=rP (lF n) n:=rfl
def rQ (G:Addr->μ->Sl->Int->Int->Sl->Int->Int->M (Unit⊕Bool))(n:Nat)(a0:Addr)(a1:μ)(a2:Sl)(a3 a4:Int)(a5:Sl)(a6 a7:Int):M (Unit⊕Bool):=if decide (a7<a6) then sh (aw a5 a7 1) λx0=>sh (ar li x0) λ(x1:Int)=>sh (eC 15) λx2=>sh (ar .sl (a0.plus 0)) λ(x3:Sl)=>sh (aw x3 x1 5) λx4=>sh (ar li (x4.plus 0)) λ(x5:Int)=>sh (ar .sl (a0.plus 0)) λ(x6:Sl)=>sh (aw x6 x1 5) λx7=>sh (ar .str (x7.plus 1)) λ(x8:ζ)=>sh (aM (some (x2+13)) aE [vi 0,.string (ofBytes [])]) λx9=>sh (bF (an x9) [vi x5,.string x8]) λx10=>sh (aN [li,.str] (an x9)) λ(x11:Int×ζ)=>sh (xA aE (Ty.one .sl) nP a1 (Value.agg #[vi x11.1,.string x11.2])) λ(x12:Bool×Sl)=>sh (lF n a0 a1 x1 (an x9) a2 a3 a4 a5 a6 a7 x12.2 (↑x12.2.len:Int) 0) (cY (λx13=>sh (aN [li,.str] (an x9)) λ(iY:Int×ζ)=>sh (wH aE (Ty.one .sl) nP a1 (Value.agg #[vi iY.1,.string iY.2])) λx15=>sh (app false x15.1 1 av 1 [vi x1]) λpT=>sh (wI a1 (↑x15.2:Int) (aH pT)) λx17=>G a0 a1 a2 a3 a4 a5 a6 (i64.wrap (a7+1))) (λx13=>AI (Sum.inr x13))) else AI (Sum.inl ())
def jC:Nat->Addr->μ->Sl->Int->Int->Sl->Int->Int->M (Unit⊕Bool)|0=>λ_ _ _ _ _ _ _ _=>AS|n+1=>rQ (jC n) n
theorem zO (n:Nat):jC (n+1)=rQ (jC n) n:=rfl
def rR (G:Addr->Sl->Int->Int->M (Unit⊕Bool))(n:Nat)(a0:Addr)(a1:Sl)(a2 a3:Int):M (Unit⊕Bool):=if decide (a3<a2) then sh (aw a1 a3 5) λx0=>sh (aN [li,.str,.bool,.sl,.sl] x0) λ(x1:Int×ζ×Bool×Sl×Sl)=>sh (aM none az [vi 0,.string (ofBytes []),.bool false,aT,aT]) λx2=>sh (bF (an x2) [vi x1.1,.string x1.2.1,.bool x1.2.2.1,aH x1.2.2.2.1,aH x1.2.2.2.2]) λx3=>sh (Be aE) λx4=>sh (ar .sl ((an x2).plus 3)) λ(x5:Sl)=>sh (jC n a0 (some x4) a1 a2 a3 x5 (↑x5.len:Int) 0) (cY (λx6=>G a0 a1 a2 (i64.wrap (a3+1))) (λx6=>AI (Sum.inr x6))) else AI (Sum.inl ())
def jD:Nat->Addr->Sl->Int->Int->M (Unit⊕Bool)|0=>λ_ _ _ _=>AS|n+1=>rR (jD n) n
theorem zP (n:Nat):jD (n+1)=rR (jD n) n:=rfl
def vl (n:Nat)(a0:Sl×Int):M Bool:=sh (aM none aj [aH a0.1,vi a0.2]) λx0=>sh (ar .sl ((an x0).plus 0)) λ(x1:Sl)=>sh (jD n (an x0) x1 (↑x1.len:Int) 0) (cY (λx2=>AI false) (λx2=>AI x2))
abbrev abm (n:Nat):bB:=⟨16,[.agg [.sl,.int .i64]],[jT],λx=>vl n x⟩
abbrev Jt:L2:=⟨[0,1,0,1],[(1,aJ),(12,cN),(13,aC),(14,aC)],[],[(2,jT)],[2,4,5,7,8,10]++List.range' 14 48,0,.ret,λn=>υ4 (jD n)⟩
abbrev Ju:L2:=⟨[0,1,1,1,0,0,1,1,0,0,1,0,1],[(1,aJ),(5,tyM),(12,cN),(13,aC),(14,aC),(20,cN),(21,aC),(22,aC)],[],[(2,jT)],[2,7,8,10]++List.range' 22 39,2,.ret,λn=>υ8 (jC n)⟩
abbrev Jv:L2:=⟨[0,1,0,1,1,0,0,1,1,0,0,1,1,1,0,0,1,1,0,0,1,0,1],[(1,aJ),(5,tyM),(7,aC),(8,aJ),(12,cN),(13,aC),(14,aC),(20,cN),(21,aC),(22,aC),(41,cN),(42,aC),(43,aC)],[],[(2,jT)],[2,10]++List.range' 43 9,4,.ret,λn=>υ13 (lF n)⟩
def Jw (i:Nat):Option (List (Nat×η)):=Κ i 8 (Ω [0,2,6,8,1,3,4,5,7,9,10,11,12,13,14]) none
theorem SB (n:Nat):kZ TZp Tryz.f16 (Jv.e n) Jv.ws:=L2.ok Tryz.f16 Jv n Vl (dr:=Jw) (hT:=λm _=>.m1 (K55 m))
theorem SD (n:Nat):kZ TZp Tryz.f16 (Ju.e n) Ju.ws:=L2.ok Tryz.f16 Ju n Vl (lt:=λn=>[Jv.e n]) (dr:=Jw) (hT:=λm _=>⟨.nil,K55 m,.nil,(.cc (SB m) .nil),.nil⟩)
theorem SE (n:Nat):kZ TZp Tryz.f16 (Jt.e n) Jt.ws:=L2.ok Tryz.f16 Jt n Vl (lt:=λn=>[Ju.e n]) (dr:=Jw) (hT:=λm _=>⟨.nil,K55 m,.nil,(.cc (SD m) .nil),.nil⟩)
theorem FX (n:Nat):aP TZp (abm n):=bG Tryz.f16 (Vl n) (ll:=[Jt.e n]) (dr:=Jw) (hT:=⟨.nil,K55 n,.nil,(.cc (SE n) .nil),.nil⟩)
abbrev C56 (n:Nat):List bB:=abm n::Vl n
theorem K56 (n:Nat):aI TZp (C56 n):=.cons (FX n) (K55 n)
structure aB where
 eg:Addr->Addr->Addr->Addr->Addr->Int->M Int
 ep:Addr->Addr->Addr->Addr->Addr->Addr->Addr->ξ->Sl->Int->Int->M Unit
 ez:Addr->Addr->Addr->Addr->Addr->Addr->Addr->Addr->ξ->Sl->Int->Int->M Unit
 dT:Int->Addr->Addr->Addr->Addr->Addr->Addr->Addr->Addr->Addr->M Unit
 dN:Int->Addr->Addr->Addr->Addr->Addr->M Unit
def fO (G:aB)(n:Nat)(x:ξ)(a0:Int):M Unit:=if rh ji x then sh (pG [aJ,aJ,aJ,aJ,aJ] x) λ(c:Addr×Addr×Addr×Addr×Addr)=>G.dN a0 c.1 c.2.1 c.2.2.1 c.2.2.2.1 c.2.2.2.2 else AS
abbrev kQ:=fO
def jE (G:aB)(n:Nat)(x:ξ)(a0:Int):M Unit:=if rh kC x then sh (pG [aJ,aJ,aJ,aJ,aJ,aJ,aJ,aJ,aJ] x) λ(c:Addr×Addr×Addr×Addr×Addr×Addr×Addr×Addr×Addr)=>G.dT a0 c.1 c.2.1 c.2.2.1 c.2.2.2.1 c.2.2.2.2.1 c.2.2.2.2.2.1 c.2.2.2.2.2.2.1 c.2.2.2.2.2.2.2.1 c.2.2.2.2.2.2.2.2 else AS
def lG (G:aB)(n:Nat)(a0 a1 a2 a3 a4:Addr)(a5:Int):M Int:=sh (ar .sl a0) λ(x0:Sl)=>sh (ar .sl a0) λ(x1:Sl)=>sh (aw x0 (i64.wrap ((↑x1.len:Int)-1)) 1) λx2=>sh (ar li x2) λ(x3:Int)=>sh (ar .sl a0) λ(x4:Sl)=>sh (ar .sl a0) λ(x5:Sl)=>sh (lu x4 0 (i64.wrap ((↑x5.len:Int)-1)) av 1) λx6=>sh (bF a0 [aH x6]) λx7=>sh (ar .sl a1) λ(x8:Sl)=>sh (aw x8 x3 1) λx9=>sh (bF x9 [.bool false]) λx10=>sh (ar .sl a3) λ(x11:Sl)=>sh (ar .sl a2) λ(x12:Sl)=>sh (aw x11 x3 1) λx13=>sh (bF x13 [vi (↑x12.len:Int)]) λiY=>sh (ar li a4) λ(x15:Int)=>if decide (x3=x15) then AI (i64.wrap (a5+1)) else G.eg a0 a1 a2 a3 a4 (i64.wrap (a5+1))
def lH (G:aB)(n:Nat)(a0 a1 a2 a3 a4 a5 a6:Addr)(a7:ξ)(a8:Sl)(a9 a10:Int):M Unit:=if decide (a10<a9) then sh (aw a8 a10 1) λx0=>sh (ar li x0) λ(x1:Int)=>sh (kQ G n a7 x1) λx2=>G.ep a0 a1 a2 a3 a4 a5 a6 a7 a8 a9 (i64.wrap (a10+1)) else AI ()
def lI (G:aB)(n:Nat)(a0 a1 a2 a3 a4 a5 a6 a7:Addr)(a8:ξ)(a9:Sl)(a10 a11:Int):M Unit:=if decide (a11<a10) then sh (aw a9 a11 1) λx0=>sh (ar li x0) λ(x1:Int)=>sh (fO G n a8 x1) λx2=>G.ez a0 a1 a2 a3 a4 a5 a6 a7 a8 a9 a10 (i64.wrap (a11+1)) else AI ()
def oe (G:aB)(n:Nat)(a0:Int)(a1 a2 a3 a4 a5 a6 a7 a8 a9:Addr):M Unit:=sh (aM none av [vi a0]) λx0=>sh (ar li a1) λ(x1:Int)=>sh (bF a1 [vi (i64.wrap (x1+1))]) λx2=>sh (ar .sl a2) λ(x3:Sl)=>sh (ar li (an x0)) λ(x4:Int)=>sh (ar .sl a3) λ(x5:Sl)=>sh (ar li (an x0)) λ(x6:Int)=>sh (ar li a1) λ(x7:Int)=>sh (aw x3 x4 1) λx8=>sh (ar li a1) λ(x9:Int)=>sh (mY [some a3,some (an x0),some a1] (bF x8 [vi x7])) λx10=>sh (aw x5 x6 1) λx11=>sh (bF x11 [vi x9]) λx12=>sh (ar .sl a4) λ(x13:Sl)=>sh (ar li (an x0)) λ(iY:Int)=>sh (app false x13 1 av 1 [vi iY]) λx15=>sh (bF a4 [aH x15]) λpT=>sh (ar .sl a5) λ(x17:Sl)=>sh (ar li (an x0)) λ(rF:Int)=>sh (aw x17 rF 1) λx19=>sh (bF x19 [.bool true]) λx20=>sh (ar .sl (a7.plus 0)) λ(x21:Sl)=>sh (ar li (an x0)) λ(x22:Int)=>sh (aw x21 x22 5) λx23=>sh (ar .sl (x23.plus 3)) λ(x24:Sl)=>sh (G.ez a2 a3 a4 a5 a7 a8 a9 (an x0) (Value.func (Fn.func ji) #[] #[.pointer (some a2),.pointer (some a6),.pointer (some a3),.pointer (some (an x0)),.pointer (some a5)]) x24 (↑x24.len:Int) 0) λx25=>sh (ar .sl (a7.plus 0)) λ(x26:Sl)=>sh (ar li (an x0)) λ(x27:Int)=>sh (aw x26 x27 5) λx28=>sh (ar .sl (x28.plus 4)) λ(x29:Sl)=>sh (G.ep a2 a3 a4 a5 a8 a9 (an x0) (Value.func (Fn.func ji) #[] #[.pointer (some a2),.pointer (some a6),.pointer (some a3),.pointer (some (an x0)),.pointer (some a5)]) x29 (↑x29.len:Int) 0) λx30=>sh (ar .sl a3) λ(x31:Sl)=>sh (ar li (an x0)) λ(x32:Int)=>sh (aw x31 x32 1) λx33=>sh (ar li x33) λ(x34:Int)=>sh (ar .sl a2) λ(x35:Sl)=>sh (ar li (an x0)) λ(x36:Int)=>sh (aw x35 x36 1) λx37=>sh (ar li x37) λ(x38:Int)=>if !decide (x34=x38) then AI () else sh (G.eg a4 a5 a8 a9 (an x0) 0) λx39=>sh (ar .sl a8) λ(x40:Sl)=>sh (app false x40 1 av 1 [vi x39]) λx41=>sh (bF a8 [aH x41]) λx42=>AI ()
def mD (G:aB)(n:Nat)(a0:Int)(a1 a2 a3 a4 a5:Addr):M Unit:=sh (ar .sl a1) λ(x0:Sl)=>sh (aw x0 a0 1) λx1=>sh (ar li x1) λ(x2:Int)=>if decide (x2=0) then sh (ar .raw a2) λ(x3:ξ)=>sh (jE G n x3 a0) λx4=>sh (ar .sl a3) λ(x5:Sl)=>sh (ar li a4) λ(x6:Int)=>sh (ar .sl a3) λ(x7:Sl)=>sh (ar li a4) λ(x8:Int)=>sh (aw x7 x8 1) λx9=>sh (ar li x9) λ(x10:Int)=>sh (ar .sl a3) λ(x11:Sl)=>sh (aw x11 a0 1) λx12=>sh (ar li x12) λ(x13:Int)=>sh (aw x5 x6 1) λiY=>sh (bF iY [vi (if x13<x10 then x13 else x10)]) λx15=>AI () else sh (ar .sl a5) λ(x3:Sl)=>sh (aw x3 a0 1) λx4=>sh (ar .bool x4) λ(x5:Bool)=>if x5 then sh (ar .sl a3) λ(x6:Sl)=>sh (ar li a4) λ(x7:Int)=>sh (ar .sl a3) λ(x8:Sl)=>sh (ar li a4) λ(x9:Int)=>sh (aw x8 x9 1) λx10=>sh (ar li x10) λ(x11:Int)=>sh (ar .sl a1) λ(x12:Sl)=>sh (aw x12 a0 1) λx13=>sh (ar li x13) λ(iY:Int)=>sh (aw x6 x7 1) λx15=>sh (bF x15 [vi (if iY<x11 then iY else x11)]) λpT=>AI () else AI ()
def aB.at:Nat->aB|0=>⟨λ_ _ _ _ _ _=>AS,λ_ _ _ _ _ _ _ _ _ _ _=>AS,λ_ _ _ _ _ _ _ _ _ _ _ _=>AS,λ_ _ _ _ _ _ _ _ _ _=>AS,λ_ _ _ _ _ _=>AS⟩|n+1=>⟨lG (aB.at n) n,lH (aB.at n) n,lI (aB.at n) n,oe (aB.at n) n,mD (aB.at n) n⟩
def eg (n:Nat):=(aB.at n).eg
theorem uI (n:Nat):eg (n+1)=lG (aB.at n) n:=rfl
def ep (n:Nat):=(aB.at n).ep
theorem uJ (n:Nat):ep (n+1)=lH (aB.at n) n:=rfl
def ez (n:Nat):=(aB.at n).ez
theorem uK (n:Nat):ez (n+1)=lI (aB.at n) n:=rfl
def dT (n:Nat):=(aB.at n).dT
theorem wm (n:Nat):dT (n+1)=oe (aB.at n) n:=rfl
def dN (n:Nat):=(aB.at n).dN
theorem u7 (n:Nat):dN (n+1)=mD (aB.at n) n:=rfl
def xe (n:Nat):=fO (aB.at n) n
def xf (n:Nat):=kQ (aB.at n) n
def vJ (n:Nat):=jE (aB.at n) n
abbrev Qg (n:Nat):bB:=⟨33,[aC,aJ,aJ,aJ,aJ,aJ,aJ,aJ,aJ,aJ],[],υ10 (dT n)⟩
abbrev Jx:L1:=⟨[0,1,0,1,1,1,1,1,1],[(2,aJ),(3,aJ),(4,aJ),(5,aJ),(7,aJ),(8,aJ),(9,aJ),(10,aJ),(11,sQ),(41,cN),(42,aC),(43,aC)],[],[13]++List.range' 43 8,0,λn=>υ12 (ez n)⟩
abbrev Jy:L1:=⟨[0,1,0,1,1,1,1,1,1,1],[(2,aJ),(3,aJ),(4,aJ),(5,aJ),(8,aJ),(9,aJ),(10,aJ),(11,sQ),(56,cN),(57,aC),(58,aC)],[],[15]++List.range' 58 8,2,λn=>υ11 (ep n)⟩
abbrev Jz:L1:=⟨[0,0,1,1,1,1,1,1,1,1,1,1],[(4,aJ),(5,aJ),(8,aJ),(9,aJ),(10,aJ),(16,aC)],[(16,aC)],[16,17]++List.range' 75 24,4,λn=>υ6 (eg n)⟩
abbrev Vm (n:Nat):bB:=⟨34,[aC,aJ,aJ,aJ,aJ,aJ],[],υ6 (dN n)⟩
abbrev XY (n:Nat):List bB:=Qg n::Vm n::C56 n
abbrev FY (n:Nat):List jM:=[⟨47,[aC],[],λx a=>xe n x a⟩, ⟨62,[aC],[],λx a=>xf n x a⟩]
def JA (i:Nat):Option (List (Nat×η)):=Κ i 2 (Ω [0,1,2,3,4,6,5]++[(7,[2,3,5])]++Ω [8,9]) (Κ i 16 (Ω [0,1,2,3,4,5,6,7,8]) none)
abbrev Vn (n:Nat):List jM:=[⟨12,[aC],[],λx a=>vJ n x a⟩]
def acU (i:Nat):Option (List (Nat×η)):=Κ i 2 (Ω [7,0,1,2,3,4,5,6,8,9,10,11,12]) (Κ i 4 (Ω [7,0,1,2,3,4,5,6,8,9,10,11,12]) none)
def da (n:Nat):Prop:=aP TZp (Qg n)/\aP TZp (Vm n)
theorem HU (n:Nat)(H:da n):aI TZp (XY n):=.cons H.1 (.cons H.2 (K56 n))
theorem JB (n:Nat)(H:da n):pI TZp (FY n):=.cons (dw (l:=[⟨34,[aJ,aJ,aJ,aJ,aJ],λa c=>dN n a c.1 c.2.1 c.2.2.1 c.2.2.2.1 c.2.2.2.2⟩]) (.cons (λa c=>aV (by kernel_rfl) ((H).2 (a,c.1,c.2.1,c.2.2.1,c.2.2.2.1,c.2.2.2.2))) .nil) (λx a=>by kernel_rfl)) (.cons (dw (l:=[⟨34,[aJ,aJ,aJ,aJ,aJ],λa c=>dN n a c.1 c.2.1 c.2.2.1 c.2.2.2.1 c.2.2.2.2⟩]) (.cons (λa c=>aV (by kernel_rfl) ((H).2 (a,c.1,c.2.1,c.2.2.1,c.2.2.2.1,c.2.2.2.2))) .nil) (λx a=>by kernel_rfl)) .nil)
theorem SF (n:Nat)(H:∀m,m<n->da m):kZ TZp Tryz.f33 (Jz.e n) Jz.ws:=L1.ok Tryz.f33 Jz n XY (dt:=FY) (dr:=JA) (hT:=λm hm=>⟨.nil,HU m (H m hm),(JB m (H m hm)),.nil,.nil⟩)
theorem SG (n:Nat)(H:∀m,m<n->da m):kZ TZp Tryz.f33 (Jy.e n) Jy.ws:=L1.ok Tryz.f33 Jy n XY (dt:=FY) (dr:=JA) (hT:=λm hm=>⟨.nil,HU m (H m hm),(JB m (H m hm)),.nil,.nil⟩)
theorem SH (n:Nat)(H:∀m,m<n->da m):kZ TZp Tryz.f33 (Jx.e n) Jx.ws:=L1.ok Tryz.f33 Jx n XY (dt:=FY) (dr:=JA) (hT:=λm hm=>⟨.nil,HU m (H m hm),(JB m (H m hm)),.nil,.nil⟩)
theorem uL (n:Nat)(H:∀m,m<n+1->da m):aP TZp (Qg (n+1)):=bG Tryz.f33 (XY n) (dl:=FY n) (ll:=[Jx.e n,Jy.e n,Jz.e n]) (dr:=JA) (hT:=⟨.nil,HU n (H n (aam n)),(JB n (H n (aam n))),(.cc (SH n (λk hk=>H k (ab8 hk))) (.cc (SG n (λk hk=>H k (ab8 hk))) (.cc (SF n (λk hk=>H k (ab8 hk))) .nil))),.nil⟩)
theorem acV (n:Nat)(H:da n):pI TZp (Vn n):=.cons (dw (l:=[⟨33,[aJ,aJ,aJ,aJ,aJ,aJ,aJ,aJ,aJ],λa c=>dT n a c.1 c.2.1 c.2.2.1 c.2.2.2.1 c.2.2.2.2.1 c.2.2.2.2.2.1 c.2.2.2.2.2.2.1 c.2.2.2.2.2.2.2.1 c.2.2.2.2.2.2.2.2⟩]) (.cons (λa c=>aV (by kernel_rfl) ((H).1 (a,c.1,c.2.1,c.2.2.1,c.2.2.2.1,c.2.2.2.2.1,c.2.2.2.2.2.1,c.2.2.2.2.2.2.1,c.2.2.2.2.2.2.2.1,c.2.2.2.2.2.2.2.2))) .nil) (λx a=>by kernel_rfl)) .nil
theorem tq (n:Nat)(H:∀m,m<n+1->da m):aP TZp (Vm (n+1)):=bG Tryz.f34 (XY n) (dl:=Vn n) (dr:=acU) (hT:=⟨.nil,HU n (H n (aam n)),(acV n (H n (aam n))),.nil,.nil⟩)
theorem pf:∀n m,m<n->da m:=by
 intro n
 induction n with
 |zero=>intro m hm;exact absurd hm (agI m)
 |succ n ih=>
  intro m hm;cases m with
  |zero=>exact⟨gu (fn:=Tryz.f33) (by kernel_rfl) (by kernel_rfl) (by kernel_rfl) (λ_=>rfl),gu (fn:=Tryz.f34) (by kernel_rfl) (by kernel_rfl) (by kernel_rfl) (λ_=>rfl)⟩
  |succ k=>exact⟨uL k λm hm=>ih m (by omega),tq k λm hm=>ih m (by omega)⟩
theorem xV (n:Nat):aP TZp (Qg n):=(pf (n+1) n (aam n)).1
theorem K57 (n:Nat):aI TZp (XY n):=HU n (pf (n+1) n (aam n))
def oh (n:Nat)(x:ξ)(a0:Int):M Unit:=if rh kC x then sh (pG [aJ,aJ,aJ,aJ,aJ,aJ,aJ,aJ,aJ] x) λ(c:Addr×Addr×Addr×Addr×Addr×Addr×Addr×Addr×Addr)=>dT n a0 c.1 c.2.1 c.2.2.1 c.2.2.2.1 c.2.2.2.2.1 c.2.2.2.2.2.1 c.2.2.2.2.2.2.1 c.2.2.2.2.2.2.2.1 c.2.2.2.2.2.2.2.2 else AS
def nG (G:Addr->Int->Addr->Addr->Addr->Int->Int->M Unit)(n:Nat)(a0:Addr)(a1:Int)(a2 a3 a4:Addr)(a5 a6:Int):M Unit:=if decide (a6<a5) then sh (ar .sl a4) λ(x0:Sl)=>sh (aw x0 a6 1) λx1=>sh (bF x1 [vi (-1)]) λx2=>G a0 a1 a2 a3 a4 a5 (i64.wrap (a6+1)) else AI ()
def gT:Nat->Addr->Int->Addr->Addr->Addr->Int->Int->M Unit|0=>λ_ _ _ _ _ _ _=>AS|n+1=>nG (gT n) n
theorem vK (n:Nat):gT (n+1)=nG (gT n) n:=rfl
def oK (n:Nat)(a0:Sl×Int):M (Sl×Sl):=sh (aM none aj [aH a0.1,vi a0.2]) λx0=>sh (ar .sl ((an x0).plus 0)) λ(x1:Sl)=>sh (eC 12) λx2=>sh (vS (some (x2+1)) av [vi 0] (↑x1.len:Int) (↑x1.len:Int)) λx3=>sh (vS (some (x2+3)) av [vi 0] (↑x1.len:Int) (↑x1.len:Int)) λx4=>sh (vS (some (x2+5)) av [vi 0] (↑x1.len:Int) (↑x1.len:Int)) λx5=>sh (aM (some (x2+6)) aQ [aT]) λx6=>sh (aM (some (x2+7)) aQ [aT]) λx7=>sh (aM (some (x2+8)) aQ [aT]) λx8=>sh (E7 [x2+3,x2+5] (an x6) (mY [none,none] (bF (an x6) [aH x3]))) λx9=>sh (E7 [x2+5] (an x7) (mY [none] (bF (an x7) [aH x4]))) λx10=>sh (bF (an x8) [aH x5]) λx11=>sh (ar .sl (an x8)) λ(x12:Sl)=>sh (gT n (an x0) (↑x1.len:Int) (an x6) (an x7) (an x8) (↑x12.len:Int) 0) λx13=>sh (aM none aQ [aT]) λiY=>sh (aM none aQ [aT]) λx15=>sh (vS none vG [.bool false] (↑x1.len:Int) (↑x1.len:Int)) λpT=>sh (aM none zo [aT]) λx17=>sh (bF (an x17) [aH pT]) λrF=>sh (aM none av [vi 0]) λx19=>sh (bF (an x19) [vi 0]) λx20=>sh (aM none wZ [Value.nilFunc]) λx21=>sh (bF (an x21) [.func (Fn.func kC) #[] #[.pointer (some (an x19)),.pointer (some (an x6)),.pointer (some (an x7)),.pointer (some (an x15)),.pointer (some (an x17)),.pointer (some (an x21)),.pointer (some (an x0)),.pointer (some (an iY)),.pointer (some (an x8))]]) λx22=>sh (ar .raw (an x21)) λ(x23:ξ)=>sh (ar li ((an x0).plus 1)) λ(x24:Int)=>sh (oh n x23 x24) λx25=>sh (ar .sl (an x8)) λ(x26:Sl)=>sh (ar .sl (an iY)) λ(x27:Sl)=>AI (x26,x27)
abbrev abn (n:Nat):bB:=⟨23,[.agg [.sl,.int .i64]],[cN,cN],λx=>oK n x⟩
abbrev JC:L1:=⟨[0,1,0,1,1,1],[(1,aJ),(4,aC),(5,aJ),(6,aJ),(7,aJ),(24,aC),(25,aC)],[],[8]++List.range' 25 7,0,λn=>υ7 (gT n)⟩
abbrev N6 (n:Nat):List jM:=[⟨35,[aC],[],λx a=>oh n x a⟩]
def Vo (i:Nat):Option (List (Nat×η)):=Κ i 2 (Ω [0,2,4,1,3,5,6,7,8]++[(9,[3,5]),(10,[5])]++Ω [11]) (Κ i 14 (Ω [0,2,1,3]) none)
theorem Vp (n:Nat):pI TZp (N6 n):=.cons (dw (l:=[⟨33,[aJ,aJ,aJ,aJ,aJ,aJ,aJ,aJ,aJ],λa c=>dT n a c.1 c.2.1 c.2.2.1 c.2.2.2.1 c.2.2.2.2.1 c.2.2.2.2.2.1 c.2.2.2.2.2.2.1 c.2.2.2.2.2.2.2.1 c.2.2.2.2.2.2.2.2⟩]) (.cons (λa c=>aV (by kernel_rfl) ((xV n) (a,c.1,c.2.1,c.2.2.1,c.2.2.2.1,c.2.2.2.2.1,c.2.2.2.2.2.1,c.2.2.2.2.2.2.1,c.2.2.2.2.2.2.2.1,c.2.2.2.2.2.2.2.2))) .nil) (λx a=>by kernel_rfl)) .nil
theorem SI (n:Nat):kZ TZp Tryz.f23 (JC.e n) JC.ws:=L1.ok Tryz.f23 JC n XY (dt:=N6) (dr:=Vo) (hT:=λm _=>⟨.nil,K57 m,(Vp m),.nil,.nil⟩)
theorem zQ (n:Nat):aP TZp (abn n):=bG Tryz.f23 (XY n) (dl:=N6 n) (ll:=[JC.e n]) (dr:=Vo) (hT:=⟨.nil,K57 n,(Vp n),(.cc (SI n) .nil),.nil⟩)
abbrev C58 (n:Nat):List bB:=abn n::XY n
theorem K58 (n:Nat):aI TZp (C58 n):=.cons (zQ n) (K57 n)
def rS (G:Addr->Sl->Sl->Bool->Sl->Sl->Int->Int->Int->Sl->Int->Int->Sl->Int->Int->Sl->Int->Int->M Bool)(n:Nat)(a0:Addr)(a1 a2:Sl)(a3:Bool)(a4 a5:Sl)(a6 a7 a8:Int)(a9:Sl)(a10 a11:Int)(a12:Sl)(a13 a14:Int)(a15:Sl)(a16 a17:Int):M Bool:=if decide (a17<a16) then sh (aw a15 a17 1) λx0=>sh (ar li x0) λ(x1:Int)=>sh (aw a1 x1 1) λx2=>sh (ar li x2) λ(x3:Int)=>if decide (x3=a6) then G a0 a1 a2 false a4 a5 a6 a7 a8 a9 a10 a11 a12 a13 a14 a15 a16 (i64.wrap (a17+1)) else sh (aw a4 a6 1) λx4=>sh (aw a1 x1 1) λx5=>sh (ar li x4) λ(x6:Int)=>sh (ar li x5) λ(x7:Int)=>sh (aw a4 x7 1) λx8=>sh (ar li x8) λ(x9:Int)=>sh (aw a4 a6 1) λx10=>sh (bF x10 [vi (if x6<x9 then x9 else x6)]) λx11=>G a0 a1 a2 a3 a4 a5 a6 a7 a8 a9 a10 a11 a12 a13 a14 a15 a16 (i64.wrap (a17+1)) else AI a3
def lJ:Nat->Addr->Sl->Sl->Bool->Sl->Sl->Int->Int->Int->Sl->Int->Int->Sl->Int->Int->Sl->Int->Int->M Bool|0=>λ_ _ _ _ _ _ _ _ _ _ _ _ _ _ _ _ _ _=>AS|n+1=>rS (lJ n) n
theorem zR (n:Nat):lJ (n+1)=rS (lJ n) n:=rfl
def lK (G:Addr->Sl->Sl->Bool->Sl->Sl->Int->Int->Int->Sl->Int->Int->Sl->Int->Int->M Bool)(n:Nat)(a0:Addr)(a1 a2:Sl)(a3:Bool)(a4 a5:Sl)(a6 a7 a8:Int)(a9:Sl)(a10 a11:Int)(a12:Sl)(a13 a14:Int):M Bool:=if decide (a14<a13) then sh (aw a12 a14 1) λx0=>sh (ar .sl x0) λ(x1:Sl)=>sh (lJ n a0 a1 a2 a3 a4 a5 a6 a7 a8 a9 a10 a11 a12 a13 a14 x1 (↑x1.len:Int) 0) λx2=>G a0 a1 a2 x2 a4 a5 a6 a7 a8 a9 a10 a11 a12 a13 (i64.wrap (a14+1)) else AI a3
def lL:Nat->Addr->Sl->Sl->Bool->Sl->Sl->Int->Int->Int->Sl->Int->Int->Sl->Int->Int->M Bool|0=>λ_ _ _ _ _ _ _ _ _ _ _ _ _ _ _=>AS|n+1=>lK (lL n) n
theorem oW (n:Nat):lL (n+1)=lK (lL n) n:=rfl
def rT (G:Addr->Sl->Sl->Bool->Sl->Sl->Int->Int->Int->Sl->Int->Int->M Bool)(n:Nat)(a0:Addr)(a1 a2:Sl)(a3:Bool)(a4 a5:Sl)(a6 a7 a8:Int)(a9:Sl)(a10 a11:Int):M Bool:=if decide (a11<a10) then sh (aw a9 a11 1) λx0=>sh (ar li x0) λ(x1:Int)=>sh (eC 15) λx2=>sh (ar .sl (a0.plus 0)) λ(x3:Sl)=>sh (aw x3 x1 5) λx4=>sh (ar .sl (x4.plus 3)) λ(x5:Sl)=>sh (ar .sl (a0.plus 0)) λ(x6:Sl)=>sh (aw x6 x1 5) λx7=>sh (ar .sl (x7.plus 4)) λ(x8:Sl)=>sh (aM (some (x2+12)) aQ [aH x5,aH x8]) λx9=>sh (lL n a0 a1 a2 a3 a4 a5 a6 a7 a8 a9 a10 a11 { a:=some (an x9),len:=2,cap:=3 } (↑2:Int) 0) λx10=>G a0 a1 a2 x10 a4 a5 a6 a7 a8 a9 a10 (i64.wrap (a11+1)) else AI a3
def lM:Nat->Addr->Sl->Sl->Bool->Sl->Sl->Int->Int->Int->Sl->Int->Int->M Bool|0=>λ_ _ _ _ _ _ _ _ _ _ _ _=>AS|n+1=>rT (lM n) n
theorem zS (n:Nat):lM (n+1)=rT (lM n) n:=rfl
def rU (G:Addr->Sl->Sl->Bool->Sl->Sl->Int->Int->M Bool)(n:Nat)(a0:Addr)(a1 a2:Sl)(a3:Bool)(a4 a5:Sl)(a6 a7:Int):M Bool:=if decide (a7<a6) then sh (aw a5 a7 1) λx0=>sh (ar .sl x0) λ(x1:Sl)=>sh (lM n a0 a1 a2 a3 a4 a5 a7 a6 a7 x1 (↑x1.len:Int) 0) λx2=>sh (aw a4 a7 1) λx3=>sh (aw a2 a7 1) λx4=>sh (ar li x3) λ(x5:Int)=>sh (ar li x4) λ(x6:Int)=>sh (aw a4 a7 1) λx7=>sh (bF x7 [vi (i64.wrap (x5+x6))]) λx8=>G a0 a1 a2 x2 a4 a5 a6 (i64.wrap (a7+1)) else AI a3
def lN:Nat->Addr->Sl->Sl->Bool->Sl->Sl->Int->Int->M Bool|0=>λ_ _ _ _ _ _ _ _=>AS|n+1=>rU (lN n) n
theorem zT (n:Nat):lN (n+1)=rU (lN n) n:=rfl
def rV (G:Addr->Sl->Sl->Bool->Sl->Sl->Sl->Int->Int->M Unit)(n:Nat)(a0:Addr)(a1 a2:Sl)(a3:Bool)(a4 a5 a6:Sl)(a7 a8:Int):M Unit:=if decide (a8<a7) then sh (aw a6 a8 1) λx0=>sh (ar li x0) λ(x1:Int)=>sh (aw a5 x1 1) λx2=>sh (ar .sl x2) λ(x3:Sl)=>sh (app false x3 1 av 1 [vi a8]) λx4=>sh (aw a5 x1 1) λx5=>sh (bF x5 [aH x4]) λx6=>G a0 a1 a2 a3 a4 a5 a6 a7 (i64.wrap (a8+1)) else AI ()
def lO:Nat->Addr->Sl->Sl->Bool->Sl->Sl->Sl->Int->Int->M Unit|0=>λ_ _ _ _ _ _ _ _ _=>AS|n+1=>rV (lO n) n
theorem zU (n:Nat):lO (n+1)=rV (lO n) n:=rfl
def sS (n:Nat)(a0:Sl×Int):M (Int×Bool):=sh (aM none aj [aH a0.1,vi a0.2]) λx0=>sh (aN [.sl,li] (an x0)) λ(x1:Sl×Int)=>sh (oK n (x1.1,x1.2)) λx2=>sh (vS none av [vi 0] (↑x2.2.len:Int) (↑x2.2.len:Int)) λx3=>sh (vS none aQ [aT] (↑x2.2.len:Int) (↑x2.2.len:Int)) λx4=>sh (lO n (an x0) x2.1 x2.2 true x3 x4 x2.1 (↑x2.1.len:Int) 0) λx5=>sh (lN n (an x0) x2.1 x2.2 true x3 x4 (↑x2.2.len:Int) 0) λx6=>sh (ar li ((an x0).plus 1)) λ(x7:Int)=>sh (aw x2.1 x7 1) λx8=>sh (ar li x8) λ(x9:Int)=>sh (aw x3 x9 1) λx10=>sh (ar li x10) λ(x11:Int)=>AI (i64.wrap (x11-1),x6)
abbrev abp (n:Nat):bB:=⟨17,[.agg [.sl,.int .i64]],[aC,jT],λx=>sS n x⟩
abbrev JD:L1:=⟨[0,1,0,1,1,1,1,1],[(1,aJ),(4,cN),(5,cN),(6,jT),(7,cN),(8,cN),(29,cN),(30,aC),(31,aC)],[],[9,10]++List.range' 31 16,0,λn=>υ9 (lO n)⟩
abbrev JE:L1:=⟨[0,1,0,1,1,1,1,1,1],[(1,aJ),(4,cN),(5,cN),(6,jT),(7,cN),(8,cN),(48,aC),(49,aC)],[(6,jT)],[6,11,13,15,17]++List.range' 49 71,2,λn=>υ8 (lN n)⟩
abbrev JF:L1:=⟨[0,1,0,1,0,0,1,1,0,0,1,0,1,1,1,1,1,1],[(1,aJ),(4,cN),(5,cN),(6,jT),(7,cN),(8,cN),(11,aC),(48,aC),(49,aC),(55,cN),(56,aC),(57,aC)],[(6,jT)],[6,13,15,17]++List.range' 57 52,4,λn=>υ12 (lM n)⟩
abbrev JG:L1:=⟨[0,1,1,0,0,1,1,0,0,1,0,1,0,0,1,1,0,0,1,0,1,1,1,1,1,1],[(1,aJ),(4,cN),(5,cN),(6,jT),(7,cN),(8,cN),(11,aC),(48,aC),(49,aC),(55,cN),(56,aC),(57,aC),(73,cN),(74,aC),(75,aC)],[(6,jT)],[6,15,17]++List.range' 75 33,6,λn=>υ15 (lL n)⟩
abbrev JH:L1:=⟨[0,1,1,0,0,1,1,0,0,1,1,0,0,1,1,0,0,1,0,1,0,0,1,1,0,0,1,0,1,1,1,1,1,1],[(1,aJ),(4,cN),(5,cN),(6,jT),(7,cN),(8,cN),(11,aC),(48,aC),(49,aC),(55,cN),(56,aC),(57,aC),(73,cN),(74,aC),(75,aC),(79,cN),(80,aC),(81,aC)],[(6,jT)],[6,17]++List.range' 81 26,8,λn=>υ18 (lJ n)⟩
def CG (i:Nat):Option (List (Nat×η)):=Κ i 16 (Ω [0,2,6,8,14,1,3,4,5,7,9,10,11,12,13]) (Κ i 24 (Ω [0,1,2,3,4,6,7,8,9,5,10,11,12,13,14,15]) (Κ i 28 (Ω [0,1,2,4,5,6,3,7,8,9,10]) none))
theorem SJ (n:Nat):kZ TZp Tryz.f17 (JH.e n) JH.ws:=L1.ok Tryz.f17 JH n C58 (dr:=CG) (hT:=λm _=>.m1 (K58 m))
theorem SK (n:Nat):kZ TZp Tryz.f17 (JG.e n) JG.ws:=L1.ok Tryz.f17 JG n C58 (lt:=λn=>[JH.e n]) (dr:=CG) (hT:=λm _=>⟨.nil,K58 m,.nil,(.cc (SJ m) .nil),.nil⟩)
theorem SN (n:Nat):kZ TZp Tryz.f17 (JF.e n) JF.ws:=L1.ok Tryz.f17 JF n C58 (lt:=λn=>[JG.e n]) (dr:=CG) (hT:=λm _=>⟨.nil,K58 m,.nil,(.cc (SK m) .nil),.nil⟩)
theorem SQ (n:Nat):kZ TZp Tryz.f17 (JE.e n) JE.ws:=L1.ok Tryz.f17 JE n C58 (lt:=λn=>[JF.e n]) (dr:=CG) (hT:=λm _=>⟨.nil,K58 m,.nil,(.cc (SN m) .nil),.nil⟩)
theorem SR (n:Nat):kZ TZp Tryz.f17 (JD.e n) JD.ws:=L1.ok Tryz.f17 JD n C58 (dr:=CG) (hT:=λm _=>.m1 (K58 m))
theorem FZ (n:Nat):aP TZp (abp n):=bG Tryz.f17 (C58 n) (ll:=[JD.e n,JE.e n]) (dr:=CG) (hT:=⟨.nil,K58 n,.nil,(.cc (SR n) (.cc (SQ n) .nil)),.nil⟩)
abbrev C59 (n:Nat):List bB:=abp n::C58 n
theorem K59 (n:Nat):aI TZp (C59 n):=.cons (FZ n) (K58 n)
def rW (G:Addr->Sl->Sl->Int->Int->M (Unit⊕Int))(n:Nat)(a0:Addr)(a1 a2:Sl)(a3 a4:Int):M (Unit⊕Int):=if decide (a4<a3) then sh (aw a2 a4 1) λx0=>sh (ar .bool x0) λ(x1:Bool)=>if x1 then sh (aw a1 a4 1) λx2=>sh (ar li x2) λ(x3:Int)=>if !decide (x3=1) then AI (Sum.inr 3) else G a0 a1 a2 a3 (i64.wrap (a4+1)) else G a0 a1 a2 a3 (i64.wrap (a4+1)) else AI (Sum.inl ())
def lP:Nat->Addr->Sl->Sl->Int->Int->M (Unit⊕Int)|0=>λ_ _ _ _ _=>AS|n+1=>rW (lP n) n
theorem zV (n:Nat):lP (n+1)=rW (lP n) n:=rfl
def rX (G:Addr->Sl->Sl->Int->Int->M (Unit⊕Int))(n:Nat)(a0:Addr)(a1 a2:Sl)(a3 a4:Int):M (Unit⊕Int):=if decide (a4<a3) then sh (aw a2 a4 5) λx0=>sh (aN [li,.str,.bool,.sl,.sl] x0) λ(x1:Int×ζ×Bool×Sl×Sl)=>sh (aM none az [vi 0,.string (ofBytes []),.bool false,aT,aT]) λx2=>sh (bF (an x2) [vi x1.1,.string x1.2.1,.bool x1.2.2.1,aH x1.2.2.2.1,aH x1.2.2.2.2]) λx3=>sh (aw a1 a4 1) λx4=>sh (ar .bool x4) λ(x5:Bool)=>if !x5 then AI (Sum.inr 3) else sh (aN [li,.str,.bool,.sl,.sl] (an x2)) λ(x6:Int×ζ×Bool×Sl×Sl)=>sh (xc n (x6.1,x6.2.1,x6.2.2.1,x6.2.2.2.1,x6.2.2.2.2)) λx7=>if !x7 then AI (Sum.inr 3) else G a0 a1 a2 a3 (i64.wrap (a4+1)) else AI (Sum.inl ())
def lQ:Nat->Addr->Sl->Sl->Int->Int->M (Unit⊕Int)|0=>λ_ _ _ _ _=>AS|n+1=>rX (lQ n) n
theorem zW (n:Nat):lQ (n+1)=rX (lQ n) n:=rfl
def uM (n:Nat)(a0:Addr):M Int:=sh (ar .sl (a0.plus 0)) λ(x0:Sl)=>sh (vS none vG [.bool false] (↑x0.len:Int) (↑x0.len:Int)) λx1=>sh (aN [.sl,li] a0) λ(x2:Sl×Int)=>sh (ar li (a0.plus 1)) λ(x3:Int)=>sh (nf n (x2.1,x2.2) x3 x1) λx4=>sh (ar .sl (a0.plus 0)) λ(x5:Sl)=>sh (lQ n a0 x1 x5 (↑x5.len:Int) 0) (cY (λx6=>sh (aN [.sl,li] a0) λ(x7:Sl×Int)=>sh (tY n (x7.1,x7.2)) λx8=>sh (aN [.sl,li] a0) λ(x9:Sl×Int)=>sh (tZ n (x9.1,x9.2)) λx10=>sh (lP n a0 x8 x10 (↑x10.len:Int) 0) (cY (λx11=>sh (aN [.sl,li] a0) λ(x12:Sl×Int)=>sh (vl n (x12.1,x12.2)) λx13=>if x13 then AI 8 else sh (aN [.sl,li] a0) λ(iY:Sl×Int)=>sh (sS n (iY.1,iY.2)) λx15=>if decide (32<x15.1) then AI 5 else AI 0) (λx11=>AI x11))) (λx6=>AI x6))
def kG (n:Nat)(a0:Sl×Int):M Int:=sh (aM none aj [aH a0.1,vi a0.2]) λx0=>sh (ar .sl ((an x0).plus 0)) λ(x1:Sl)=>if decide (4096<(↑x1.len:Int)) then AI 7 else sh (ar .sl ((an x0).plus 0)) λ(x2:Sl)=>if decide ((↑x2.len:Int)=0) then AI 3 else sh (aN [.sl,li] (an x0)) λ(x3:Sl×Int)=>sh (sA n (x3.1,x3.2)) λx4=>if !x4 then AI 3 else uM n (an x0)
abbrev afp (n:Nat):bB:=⟨6,[.agg [.sl,.int .i64]],[aC],λx=>kG n x⟩
abbrev Qh:L2:=⟨[0,1,0,1,1,1,1,1],[(1,aJ),(3,cN),(34,cN),(35,aC),(36,aC)],[],[(2,aC)],[2,4,5]++List.range' 36 16,0,.ret,λn=>υ5 (lQ n)⟩
abbrev Qi:L2:=⟨[0,1,0,1,1,1,1,1,1,1],[(1,aJ),(6,cN),(55,cN),(56,aC),(57,aC)],[],[(2,aC)],[2,7,8]++List.range' 57 14,2,.ret,λn=>υ5 (lP n)⟩
abbrev afq (n:Nat):List (gC Int):=[⟨[0,1,1,1],[.code [1,1,1,1]],[(1,aJ)],λx=>uM n x⟩]
theorem Vq (n:Nat):kZ TZp Tryz.f6 (Qi.e n) Qi.ws:=L2.ok Tryz.f6 Qi n C59 (hT:=λm _=>.m1 (K59 m))
theorem Vr (n:Nat):kZ TZp Tryz.f6 (Qh.e n) Qh.ws:=L2.ok Tryz.f6 Qh n C59 (hT:=λm _=>.m1 (K59 m))
theorem F1 (n:Nat):aP TZp (afp n):=bG Tryz.f6 (C59 n) (ll:=[Qh.e n,Qi.e n]) (js:=afq n) (hT:=⟨.nil,K59 n,.nil,(.cc (Vr n) (.cc (Vq n) .nil)),(.cc .nil)⟩)
abbrev C60 (n:Nat):List bB:=afp n::C59 n
theorem K60 (n:Nat):aI TZp (C60 n):=.cons (F1 n) (K59 n)
def yR (n:Nat)(a0:Sl×Int):M (θ):=sh (aM none aj [aH a0.1,vi a0.2]) λx0=>sh (eC 8) λx1=>sh (aN [.sl,li] (an x0)) λ(x2:Sl×Int)=>sh (ar .sl ((an x0).plus 0)) λ(x3:Sl)=>sh (vS (some (x1+4)) aQ [aT] (↑x3.len:Int) (↑x3.len:Int)) λx4=>sh (aM (some (x1+6)) dn [aH x2.1,vi x2.2,aH x4]) λx5=>AI (some (an x5))
abbrev abq (n:Nat):bB:=⟨46,[.agg [.sl,.int .i64]],[uo],λx=>yR n x⟩
def acX (i:Nat):Option (List (Nat×η)):=Κ i 1 (Ω [1,0,2,3,4,5,6,7]) none
theorem Mn (n:Nat):aP TZp (abq n):=bG Tryz.f46 (C60 n) (dr:=acX) (hT:=.m1 (K60 n))
abbrev C61 (n:Nat):List bB:=abq n::C60 n
theorem K61 (n:Nat):aI TZp (C61 n):=.cons (Mn n) (K60 n)
def qE (G:Sl->Sl->Int->M (Unit⊕Int))(n:Nat)(a0 a1:Sl)(a2:Int):M (Unit⊕Int):=if decide (0<=a2) then sh (aw a0 a2 1) λx0=>sh (aw a1 a2 1) λx1=>sh (ar (.int IntKind.u8) x0) λ(x2:Int)=>sh (ar (.int IntKind.u8) x1) λ(x3:Int)=>if !decide (x2=x3) then sh (aw a0 a2 1) λx4=>sh (aw a1 a2 1) λx5=>sh (ar (.int IntKind.u8) x4) λ(x6:Int)=>sh (ar (.int IntKind.u8) x5) λ(x7:Int)=>if decide (x6<x7) then AI (Sum.inr (-1)) else AI (Sum.inr 1) else G a0 a1 (i64.wrap (a2-1)) else AI (Sum.inl ())
def kj:Nat->Sl->Sl->Int->M (Unit⊕Int)|0=>λ_ _ _=>AS|n+1=>qE (kj n) n
theorem yS (n:Nat):kj (n+1)=qE (kj n) n:=rfl
def qF (n:Nat)(a0 a1:Sl):M Int:=if !decide ((↑a0.len:Int)=(↑a1.len:Int)) then if decide ((↑a0.len:Int)<(↑a1.len:Int)) then AI (-1) else AI 1 else sh (kj n a0 a1 (i64.wrap ((↑a0.len:Int)-1))) (cY (λx0=>AI 0) (λx0=>AI x0))
abbrev Vs (n:Nat):bB:=⟨186,[cN,cN],[aC],υ2 (qF n)⟩
abbrev Ei:L2:=⟨[0,1,0,1,1],[(0,cN),(1,cN),(5,aC)],[],[(4,aC)],[4,5]++List.range' 19 22,0,.ret,λn=>υ3 (kj n)⟩
def Qj (i:Nat):Option (List (Nat×η)):=Κ i 8 (Ω [0,1,2,4,5,6,3,7,8]) (Κ i 9 (Ω [0,1,2,4,5,6,3,7,8]) none)
theorem N7 (n:Nat):kZ TZp Tryz.f186 (Ei.e n) Ei.ws:=L2.ok Tryz.f186 Ei n C61 (dr:=Qj) (hT:=λm _=>.m1 (K61 m))
theorem D3 (n:Nat):aP TZp (Vs n):=bG Tryz.f186 (C61 n) (ll:=[Ei.e n]) (dr:=Qj) (hT:=⟨.nil,K61 n,.nil,(.cc (N7 n) .nil),.nil⟩)
abbrev C62 (n:Nat):List bB:=Vs n::C61 n
theorem K62 (n:Nat):aI TZp (C62 n):=.cons (D3 n) (K61 n)
def jF (n:Nat)(a0 a1:Addr):M Int:=sh (ar .bool (a0.plus 0)) λ(x0:Bool)=>if x0 then sh (ar .sl (a1.plus 1)) λ(x1:Sl)=>sh (ar .sl (a0.plus 1)) λ(x2:Sl)=>sh (qF n x1 x2) λx3=>AI x3 else sh (ar .sl (a0.plus 1)) λ(x1:Sl)=>sh (ar .sl (a1.plus 1)) λ(x2:Sl)=>sh (qF n x1 x2) λx3=>AI x3
def qG (n:Nat)(a0 a1:Addr):M Int:=sh (ar .bool (a0.plus 0)) λ(x0:Bool)=>if x0 then sh (ar .bool (a1.plus 0)) λ(x1:Bool)=>if !x1 then AI (-1) else sh (ar .bool (a0.plus 0)) λ(x2:Bool)=>if !x2 then sh (ar .bool (a1.plus 0)) λ(x3:Bool)=>if x3 then AI 1 else jF n a0 a1 else jF n a0 a1 else sh (ar .bool (a0.plus 0)) λ(x1:Bool)=>if !x1 then sh (ar .bool (a1.plus 0)) λ(x2:Bool)=>if x2 then AI 1 else jF n a0 a1 else jF n a0 a1
def vm (n:Nat)(a0 a1:ζ):M Int:=sh (oE n a0) λx0=>sh (aM none aG [.bool false,aT]) λx1=>sh (bF (an x1) [.bool x0.1.1,aH x0.1.2]) λx2=>sh (oE n a1) λx3=>sh (aM none aG [.bool false,aT]) λx4=>sh (bF (an x4) [.bool x3.1.1,aH x3.1.2]) λx5=>if !x0.2 then AI 0 else if !x3.2 then AI 0 else qG n (an x1) (an x4)
abbrev Vt (n:Nat):bB:=⟨170,[oS,oS],[aC],υ2 (vm n)⟩
abbrev YZ (n:Nat):List (gC Int):=[⟨[0,0,0,1,1,1,1],[.code [1,0,0,1,1,1,1],.au 0,.code [1,1,1,1,1]],[(5,aJ),(7,aJ)],υ2 (qG n)⟩, ⟨[0,1,1,1,1,0,0,1,1,1,1],[.code [1,1,1,1,1,0,0,1,1,1,1],.au 0,.code [1,1,1,1,1]],[(5,aJ),(7,aJ)],υ2 (jF n)⟩]
theorem F3 (n:Nat):aP TZp (Vt n):=bG Tryz.f170 (C62 n) (js:=YZ n) (hT:=⟨.nil,K62 n,.nil,.nil,(.cc (.cc .nil))⟩)
abbrev C63 (n:Nat):List bB:=Vt n::C62 n
theorem K63 (n:Nat):aI TZp (C63 n):=.cons (F3 n) (K62 n)
def sF (n:Nat)(a0:Int):M Int:=if decide (a0<0) then AI (-1) else if decide (0<a0) then AI 1 else AI 0
abbrev Vu (n:Nat):bB:=⟨192,[aC],[aC],λx=>sF n x⟩
theorem CH (n:Nat):aP TZp (Vu n):=bG Tryz.f192 (C63 n) (hT:=.m1 (K63 n))
abbrev C64 (n:Nat):List bB:=Vu n::C63 n
theorem K64 (n:Nat):aI TZp (C64 n):=.cons (CH n) (K63 n)
def eQ (n:Nat)(a0:Bool×Sl×Int)(a1:Int):M Int:=sh (aM none bZ [.bool a0.1,aH a0.2.1,vi a0.2.2]) λx0=>sh (ar .sl ((an x0).plus 1)) λ(x1:Sl)=>if decide (a1<(↑x1.len:Int)) then sh (ar .sl ((an x0).plus 1)) λ(x2:Sl)=>sh (aw x2 a1 1) λx3=>sh (ar (.int IntKind.u8) x3) λ(x4:Int)=>AI x4 else AI 0
abbrev Vv (n:Nat):bB:=⟨195,[.agg [.bool,.sl,.int .i64],aC],[.one (.int .u8)],υ2 (eQ n)⟩
theorem lR (n:Nat):aP TZp (Vv n):=bG Tryz.f195 (C64 n) (hT:=.m1 (K64 n))
abbrev C65 (n:Nat):List bB:=Vv n::C64 n
theorem K65 (n:Nat):aI TZp (C65 n):=.cons (lR n) (K64 n)
def mE (n:Nat)(x:ξ)(a0:Bool×Sl×Int)(a1:Int):M Int:=if rh jh x then sh (pG [] x) λ(_:Unit)=>eQ n a0 a1 else AS
def mF (n:Nat)(x:ξ)(a0:Bool×Sl×Int)(a1:Int):M Int:=if rh jh x then sh (pG [] x) λ(_:Unit)=>eQ n a0 a1 else AS
def lS (G:Addr->Addr->ξ->Int->Int->M (Unit⊕Int))(n:Nat)(a0 a1:Addr)(a2:ξ)(a3 a4:Int):M (Unit⊕Int):=if decide (a4<a3) then sh (aN [.bool,.sl,li] a0) λ(x0:Bool×Sl×Int)=>sh (aN [.bool,.sl,li] a1) λ(x1:Bool×Sl×Int)=>sh (mY [some a1] (mE n a2 (x0.1,x0.2.1,x0.2.2) a4)) λx2=>sh (mF n a2 (x1.1,x1.2.1,x1.2.2) a4) λx3=>if !decide (i64.wrap (i64.wrap x2-i64.wrap x3)=0) then AI (Sum.inr (i64.wrap (i64.wrap x2-i64.wrap x3))) else G a0 a1 a2 a3 (i64.wrap (a4+1)) else AI (Sum.inl ())
def fM:Nat->Addr->Addr->ξ->Int->Int->M (Unit⊕Int)|0=>λ_ _ _ _ _=>AS|n+1=>lS (fM n) n
theorem uN (n:Nat):fM (n+1)=lS (fM n) n:=rfl
def nH (n:Nat)(a0 a1:Addr):M Int:=sh (ar .sl (a0.plus 1)) λ(x0:Sl)=>sh (ar li (a0.plus 2)) λ(x1:Int)=>sh (ar .sl (a1.plus 1)) λ(x2:Sl)=>sh (ar li (a1.plus 2)) λ(x3:Int)=>if !decide (i64.wrap (i64.wrap (i64.wrap ((↑x0.len:Int)+x1)-(↑x2.len:Int))-x3)=0) then AI (i64.wrap (i64.wrap (i64.wrap ((↑x0.len:Int)+x1)-(↑x2.len:Int))-x3)) else sh (ar .sl (a0.plus 1)) λ(x4:Sl)=>sh (ar .sl (a1.plus 1)) λ(x5:Sl)=>sh (fM n a0 a1 (Value.func (Fn.func jh) #[] #[]) (if (↑x4.len:Int)<(↑x5.len:Int) then (↑x5.len:Int) else (↑x4.len:Int)) 0) (cY (λx6=>AI 0) (λx6=>AI x6))
def mG (n:Nat)(a0 a1:Bool×Sl×Int):M Int:=sh (aM none bZ [.bool a0.1,aH a0.2.1,vi a0.2.2]) λx0=>sh (aM none bZ [.bool a1.1,aH a1.2.1,vi a1.2.2]) λx1=>sh (ar .sl ((an x0).plus 1)) λ(x2:Sl)=>if decide ((↑x2.len:Int)=0) then sh (ar .sl ((an x0).plus 1)) λ(x3:Sl)=>sh (ar .sl ((an x1).plus 1)) λ(x4:Sl)=>AI (i64.wrap ((↑x3.len:Int)-(↑x4.len:Int))) else sh (ar .sl ((an x1).plus 1)) λ(x3:Sl)=>if decide ((↑x3.len:Int)=0) then sh (ar .sl ((an x0).plus 1)) λ(x4:Sl)=>sh (ar .sl ((an x1).plus 1)) λ(x5:Sl)=>AI (i64.wrap ((↑x4.len:Int)-(↑x5.len:Int))) else nH n (an x0) (an x1)
abbrev Vw (n:Nat):bB:=⟨193,[.agg [.bool,.sl,.int .i64],.agg [.bool,.sl,.int .i64]],[aC],υ2 (mG n)⟩
abbrev Ej:L2:=⟨[0,1,0,1,1,1,1],[(2,aJ),(3,aJ),(6,sQ),(48,aC),(49,aC)],[],[(4,aC)],[4,7,8]++List.range' 49 18,0,.ret,λn=>υ5 (fM n)⟩
abbrev JI (n:Nat):List jM:=[⟨52,[.agg [.bool,.sl,.int .i64],aC],[.one (.int .u8)],λx a=>mE n x a.1 a.2⟩, ⟨57,[.agg [.bool,.sl,.int .i64],aC],[.one (.int .u8)],λx a=>mF n x a.1 a.2⟩]
def Qk (i:Nat):Option (List (Nat×η)):=Κ i 10 (Ω [0,2,5,7,1,6]++[(3,[6])]++Ω [4,8,9,10,11]) none
abbrev Y0 (n:Nat):List (gC Int):=[⟨[0,0,1,1],[.code [1,0,1,1],.code [1,1,1]],[(2,aJ),(3,aJ)],υ2 (nH n)⟩]
theorem Ql (n:Nat):pI TZp (JI n):=.cons (dw (l:=[⟨195,[],λa _=>eQ n a.1 a.2⟩]) (.cons (λa c=>aV (by kernel_rfl) ((lR n) (a.1,a.2))) .nil) (λx a=>by kernel_rfl)) (.cons (dw (l:=[⟨195,[],λa _=>eQ n a.1 a.2⟩]) (.cons (λa c=>aV (by kernel_rfl) ((lR n) (a.1,a.2))) .nil) (λx a=>by kernel_rfl)) .nil)
theorem N8 (n:Nat):kZ TZp Tryz.f193 (Ej.e n) Ej.ws:=L2.ok Tryz.f193 Ej n C65 (dt:=JI) (dr:=Qk) (hT:=λm _=>⟨.nil,K65 m,(Ql m),.nil,.nil⟩)
theorem xW (n:Nat):aP TZp (Vw n):=bG Tryz.f193 (C65 n) (dl:=JI n) (ll:=[Ej.e n]) (dr:=Qk) (js:=Y0 n) (hT:=⟨.nil,K65 n,(Ql n),(.cc (N8 n) .nil),(.cc .nil)⟩)
abbrev C66 (n:Nat):List bB:=Vw n::C65 n
theorem K66 (n:Nat):aI TZp (C66 n):=.cons (xW n) (K65 n)
def pE (n:Nat)(a0 a1:Bool×Sl×Int):M Int:=sh (aM none bZ [.bool a0.1,aH a0.2.1,vi a0.2.2]) λx0=>sh (aM none bZ [.bool a1.1,aH a1.2.1,vi a1.2.2]) λx1=>sh (ar .bool ((an x0).plus 0)) λ(x2:Bool)=>sh (ar .bool ((an x1).plus 0)) λ(x3:Bool)=>if !x2==x3 then sh (ar .bool ((an x0).plus 0)) λ(x4:Bool)=>if x4 then AI (-1) else AI 1 else sh (aN [.bool,.sl,li] (an x0)) λ(x4:Bool×Sl×Int)=>sh (aN [.bool,.sl,li] (an x1)) λ(x5:Bool×Sl×Int)=>sh (mG n (x4.1,x4.2.1,x4.2.2) (x5.1,x5.2.1,x5.2.2)) λx6=>sh (sF n x6) λx7=>sh (ar .bool ((an x0).plus 0)) λ(x8:Bool)=>if x8 then AI (i64.wrap (0-x7)) else AI x7
abbrev Vx (n:Nat):bB:=⟨187,[.agg [.bool,.sl,.int .i64],.agg [.bool,.sl,.int .i64]],[aC],υ2 (pE n)⟩
theorem AN (n:Nat):aP TZp (Vx n):=bG Tryz.f187 (C66 n) (hT:=.m1 (K66 n))
abbrev C67 (n:Nat):List bB:=Vx n::C66 n
theorem K67 (n:Nat):aI TZp (C67 n):=.cons (AN n) (K66 n)
def vn (n:Nat)(a0 a1:ζ):M Int:=sh (oI n a0) λx0=>sh (aM none bZ [.bool false,aT,vi 0]) λx1=>sh (bF (an x1) [.bool x0.1.1,aH x0.1.2.1,vi x0.1.2.2]) λx2=>sh (oI n a1) λx3=>sh (aM none bZ [.bool false,aT,vi 0]) λx4=>sh (bF (an x4) [.bool x3.1.1,aH x3.1.2.1,vi x3.1.2.2]) λx5=>if !x0.2 then AI 0 else if !x3.2 then AI 0 else sh (aN [.bool,.sl,li] (an x1)) λ(x6:Bool×Sl×Int)=>sh (aN [.bool,.sl,li] (an x4)) λ(x7:Bool×Sl×Int)=>sh (pE n (x6.1,x6.2.1,x6.2.2) (x7.1,x7.2.1,x7.2.2)) λx8=>AI x8
abbrev Vy (n:Nat):bB:=⟨171,[oS,oS],[aC],υ2 (vn n)⟩
theorem F4 (n:Nat):aP TZp (Vy n):=bG Tryz.f171 (C67 n) (hT:=.m1 (K67 n))
abbrev C68 (n:Nat):List bB:=Vy n::C67 n
theorem K68 (n:Nat):aI TZp (C68 n):=.cons (F4 n) (K67 n)
def vL (n a0 a1:Nat):M (Int×Bool):=if X6 a0 a1 then AI (-1,true) else if XV a0 a1 then AI (1,true) else AI (0,true)
def xg (n:Nat)(a0 a1:ζ):M (Int×Bool):=sh (mw n a0) λx0=>sh (mw n a1) λx1=>if !x0.2 then AI (0,false) else if !x1.2 then AI (0,false) else if !GR x0.1 x0.1 then AI (0,false) else if !GR x1.1 x1.1 then AI (0,false) else vL n x0.1 x1.1
abbrev Vz (n:Nat):bB:=⟨172,[oS,oS],[aC,jT],υ2 (xg n)⟩
abbrev Y1 (n:Nat):List (gC (Int×Bool)):=[⟨[0,1,1,0,0,1,1,1],[.code [1,1,1,0,0,1,1,1],.au 0,.code [1,1,1,1]],[(6,.one (.f64)),(8,.one (.f64))],υ2 (vL n)⟩]
theorem Hg (n:Nat):aP TZp (Vz n):=bG Tryz.f172 (C68 n) (js:=Y1 n) (hT:=⟨.nil,K68 n,.nil,.nil,(.cc .nil)⟩)
abbrev C69 (n:Nat):List bB:=Vz n::C68 n
theorem K69 (n:Nat):aI TZp (C69 n):=.cons (Hg n) (K68 n)
def lT (n:Nat)(a0 a1:ζ):M Int:=sh (dP n a0 a1) λx0=>AI x0
abbrev VA (n:Nat):bB:=⟨188,[oS,oS],[aC],υ2 (lT n)⟩
theorem uO (n:Nat):aP TZp (VA n):=bG Tryz.f188 (C69 n) (hT:=.m1 (K69 n))
abbrev C70 (n:Nat):List bB:=VA n::C69 n
theorem K70 (n:Nat):aI TZp (C70 n):=.cons (uO n) (K69 n)
def strings_Compare (n:Nat)(a0 a1:ζ):M Int:=sh (lT n a0 a1) λx0=>AI x0
abbrev VB (n:Nat):bB:=⟨173,[oS,oS],[aC],υ2 (strings_Compare n)⟩
theorem AO (n:Nat):aP TZp (VB n):=bG Tryz.f173 (C70 n) (hT:=.m1 (K70 n))
abbrev C71 (n:Nat):List bB:=VB n::C70 n
theorem K71 (n:Nat):aI TZp (C71 n):=.cons (AO n) (K70 n)
def ua (n:Nat)(a0:Int)(a1 a2:ζ):M Int:=if mX a1 a2 then AI 0 else if decide (a0=2) then sh (vm n a1 a2) λx0=>AI x0 else if decide (a0=3) then sh (vn n a1 a2) λx0=>AI x0 else if decide (a0=4) then if mX a1 (ofBytes [110,97,110]) then AI 1 else if mX a2 (ofBytes [110,97,110]) then AI (-1) else sh (xg n a1 a2) λx0=>if !decide (x0.1=0) then AI x0.1 else if mX a1 (ofBytes [45,48,112,48]) then AI (-1) else AI 1 else sh (strings_Compare n a1 a2) λx0=>AI x0
abbrev VC (n:Nat):bB:=⟨145,[aC,oS,oS],[aC],υ3 (ua n)⟩
theorem D4 (n:Nat):aP TZp (VC n):=bG Tryz.f145 (C71 n) (hT:=.m1 (K71 n))
abbrev C72 (n:Nat):List bB:=VC n::C71 n
theorem K72 (n:Nat):aI TZp (C72 n):=.cons (D4 n) (K71 n)
def pg (n:Nat)(a0:Int):M Int:=sh (fQ n a0) λx0=>AI x0
abbrev VD (n:Nat):bB:=⟨105,[.one (.int .u64)],[aC],λx=>pg n x⟩
theorem CI (n:Nat):aP TZp (VD n):=bG Tryz.f105 (C72 n) (hT:=.m1 (K72 n))
abbrev C73 (n:Nat):List bB:=VD n::C72 n
theorem K73 (n:Nat):aI TZp (C73 n):=.cons (CI n) (K72 n)
def nI (n:Nat)(a0:Int):M Int:=sh (pg n (IntKind.u64.wrap a0)) λx0=>sh (oq (decide (0<=x0))) λx1=>AI (IntKind.u64.wrap (1*2^min (Int.toNat x0) 64))
abbrev VE (n:Nat):bB:=⟨166,[aC],[.one (.int .u64)],λx=>nI n x⟩
theorem vM (n:Nat):aP TZp (VE n):=bG Tryz.f166 (C73 n) (hT:=.m1 (K73 n))
abbrev C74 (n:Nat):List bB:=VE n::C73 n
theorem K74 (n:Nat):aI TZp (C74 n):=.cons (vM n) (K73 n)
def kH (n:Nat)(a0:θ):M Int:=sh (nn a0) λx0=>sh (nn a0) λx1=>sh (ar (.int IntKind.u64) x0) λ(x2:Int)=>sh (ar (.int IntKind.u64) x1) λ(x3:Int)=>sh (oq (decide (0<=13))) λx4=>sh (nn a0) λx5=>sh (bF x5 [.int IntKind.u64 (IntKind.u64.wrap (↑(BitVec.ofInt 64 x2^^^BitVec.ofInt 64 (IntKind.u64.wrap (x3*2^13))).toNat:Int))]) λx6=>sh (nn a0) λx7=>sh (nn a0) λx8=>sh (ar (.int IntKind.u64) x7) λ(x9:Int)=>sh (ar (.int IntKind.u64) x8) λ(x10:Int)=>sh (oq (decide (0<=7))) λx11=>sh (nn a0) λx12=>sh (bF x12 [.int IntKind.u64 (IntKind.u64.wrap (↑(BitVec.ofInt 64 x9^^^BitVec.ofInt 64 (Int.fdiv x10 (2^7))).toNat:Int))]) λx13=>sh (nn a0) λiY=>sh (nn a0) λx15=>sh (ar (.int IntKind.u64) iY) λ(pT:Int)=>sh (ar (.int IntKind.u64) x15) λ(x17:Int)=>sh (oq (decide (0<=17))) λrF=>sh (nn a0) λx19=>sh (bF x19 [.int IntKind.u64 (IntKind.u64.wrap (↑(BitVec.ofInt 64 pT^^^BitVec.ofInt 64 (IntKind.u64.wrap (x17*2^17))).toNat:Int))]) λx20=>sh (nn a0) λx21=>sh (ar (.int IntKind.u64) x21) λ(x22:Int)=>AI x22
abbrev VF (n:Nat):bB:=⟨167,[uo],[.one (.int .u64)],λx=>kH n x⟩
def Y2 (i:Nat):Option (List (Nat×η)):=Κ i 1 (Ω [0,1,3,4,2,5,6,7,8,9]) (Κ i 2 (Ω [0,1,3,4,2,5,6,7,8,9]) (Κ i 3 (Ω [0,1,3,4,2,5,6,7,8,9]) none))
theorem wo (n:Nat):aP TZp (VF n):=bG Tryz.f167 (C74 n) (dr:=Y2) (hT:=.m1 (K74 n))
abbrev C75 (n:Nat):List bB:=VF n::C74 n
theorem K75 (n:Nat):aI TZp (C75 n):=.cons (wo n) (K74 n)
def bY (G:Sl->Int->Int->Addr->Int->Int->M Unit)(n:Nat)(a0:Sl)(a1 a2:Int)(a3:Addr)(a4 a5 a6:Int):M Unit:=sh (aw a0 (i64.wrap (a1+a6)) 1) λx0=>sh (aw a0 a5 1) λx1=>sh (ar li x0) λ(x2:Int)=>sh (ar li x1) λ(x3:Int)=>sh (aw a0 a5 1) λx4=>sh (bF x4 [vi x2]) λx5=>sh (aw a0 (i64.wrap (a1+a6)) 1) λx6=>sh (bF x6 [vi x3]) λx7=>G a0 a1 a2 a3 a4 (i64.wrap (a5+1))
def cw (G:Sl->Int->Int->Addr->Int->Int->M Unit)(n:Nat)(a0:Sl)(a1 a2:Int)(a3:Addr)(a4 a5:Int):M Unit:=sh (oq (decide (4≠0))) λx0=>if decide (a5<=i64.wrap (i64.wrap (a1+i64.wrap (i64.wrap (a2.tdiv 4)*2))+1)) then sh (kH n (some a3)) λx1=>if decide (a2<=i64.wrap (IntKind.u64.wrap (↑(BitVec.ofInt 64 x1&&&BitVec.ofInt 64 (IntKind.u64.wrap (a4-1))).toNat:Int))) then bY G n a0 a1 a2 a3 a4 a5 (i64.wrap (i64.wrap (IntKind.u64.wrap (↑(BitVec.ofInt 64 x1&&&BitVec.ofInt 64 (IntKind.u64.wrap (a4-1))).toNat:Int))-a2)) else bY G n a0 a1 a2 a3 a4 a5 (i64.wrap (IntKind.u64.wrap (↑(BitVec.ofInt 64 x1&&&BitVec.ofInt 64 (IntKind.u64.wrap (a4-1))).toNat:Int))) else AI ()
def bh:Nat->Sl->Int->Int->Addr->Int->Int->M Unit|0=>λ_ _ _ _ _ _=>AS|n+1=>cw (bh n) n
def oL (n:Nat):=bY (bh n) n
def eM (n:Nat)(a0:Sl)(a1 a2:Int)(a3:ξ):M Unit:=if decide (8<=i64.wrap (a2-a1)) then sh (aM none vj [.int IntKind.u64 0]) λx0=>sh (bF (an x0) [.int IntKind.u64 (IntKind.u64.wrap (i64.wrap (a2-a1)))]) λx1=>sh (nI n (i64.wrap (a2-a1))) λx2=>sh (oq (decide (4≠0))) λx3=>sh (bh n a0 a1 (i64.wrap (a2-a1)) (an x0) x2 (i64.wrap (i64.wrap (a1+i64.wrap (i64.wrap ((i64.wrap (a2-a1)).tdiv 4)*2))-1))) λx4=>AI () else AI ()
abbrev VG (n:Nat):bB:=⟨138,[cN,aC,aC,sQ],[],υ4 (eM n)⟩
abbrev Ek:L1:=⟨[0,1,1,1,0,1,1],[(0,cN),(1,aC),(8,aC),(9,aJ),(10,.one (.int .u64)),(11,aC)],[],[11,12]++List.range' 28 39,0,λn=>υ6 (bh n)⟩
def Qm (i:Nat):Option (List (Nat×η)):=Κ i 10 (Ω [0,1,2,3,4,5,6,7,8,9,10,12,13,14,11,15,16,17,18,19]) none
abbrev N9 (n:Nat):List (gC Unit):=[⟨[1,1,0,0,1,0,0,1,1,1,0,1,1],[.au 1,.code [1,1,0,0,1,1,1,0,1,1]],[(0,cN),(1,aC),(8,aC),(9,aJ),(10,.one (.int .u64)),(11,aC),(12,aC)],υ7 (oL n)⟩]
theorem Oa (n:Nat):kZ TZp Tryz.f138 (Ek.e n) Ek.ws:=L1.ok Tryz.f138 Ek n C75 (dr:=Qm) (jt:=N9) (hT:=λm _=>⟨.nil,K75 m,.nil,.nil,(.cc .nil)⟩)
theorem pP (n:Nat):aP TZp (VG n):=bG Tryz.f138 (C75 n) (ll:=[Ek.e n]) (dr:=Qm) (hT:=⟨.nil,K75 n,.nil,(.cc (Oa n) .nil),.nil⟩)
abbrev C76 (n:Nat):List bB:=VG n::C75 n
theorem K76 (n:Nat):aI TZp (C76 n):=.cons (pP n) (K75 n)
def cD (G:Sl->Int->Int->M Unit)(n:Nat)(a0:Sl)(a1 a2:Int):M Unit:=if decide (a1<a2) then sh (aw a0 a2 1) λx0=>sh (aw a0 a1 1) λx1=>sh (ar li x0) λ(x2:Int)=>sh (ar li x1) λ(x3:Int)=>sh (aw a0 a1 1) λx4=>sh (bF x4 [vi x2]) λx5=>sh (aw a0 a2 1) λx6=>sh (bF x6 [vi x3]) λx7=>G a0 (i64.wrap (a1+1)) (i64.wrap (a2-1)) else AI ()
def b7:Nat->Sl->Int->Int->M Unit|0=>λ_ _ _=>AS|n+1=>cD (b7 n) n
def fi (n:Nat)(a0:Sl)(a1 a2:Int)(a3:ξ):M Unit:=sh (b7 n a0 a1 (i64.wrap (a2-1))) λx0=>AI ()
abbrev VH (n:Nat):bB:=⟨140,[cN,aC,aC,sQ],[],υ4 (fi n)⟩
abbrev Em:L1:=⟨[0,1,1],[(0,cN),(8,aC),(9,aC)],[],[8,9]++List.range' 13 21,0,λn=>υ3 (b7 n)⟩
def Qn (i:Nat):Option (List (Nat×η)):=Κ i 3 (Ω [0,1,2,3,4,5,6,8,9,10,7,11,12,13,14,15]) none
theorem Ob (n:Nat):kZ TZp Tryz.f140 (Em.e n) Em.ws:=L1.ok Tryz.f140 Em n C76 (dr:=Qn) (hT:=λm _=>.m1 (K76 m))
theorem pZ (n:Nat):aP TZp (VH n):=bG Tryz.f140 (C76 n) (ll:=[Em.e n]) (dr:=Qn) (hT:=⟨.nil,K76 n,.nil,(.cc (Ob n) .nil),.nil⟩)
abbrev C77 (n:Nat):List bB:=VH n::C76 n
theorem K77 (n:Nat):aI TZp (C77 n):=.cons (pZ n) (K76 n)
end Go.Sh
