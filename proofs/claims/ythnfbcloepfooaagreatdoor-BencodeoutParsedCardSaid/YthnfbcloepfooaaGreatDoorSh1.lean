
import Derived.Test.YthnfbcloepfooaaGreatDoorSh0
set_option linter.all false
set_option maxRecDepth 100000
set_option maxHeartbeats 0
namespace Go.Sh
open Go Go.Ago Go.Proofs Go.IntKind
def ef (G:Sl->Int->Int->Addr->Int->Int->M Unit)(n:Nat)(a0:Sl)(a1 a2:Int)(a3:Addr)(a4 a5 a6:Int):M Unit:=AI (ao a0 (i64.wrap (a1+a6)) 1) λx0=>AI (ao a0 a5 1) λx1=>AI (ar li x0) λ(x2:Int)=>AI (ar li x1) λ(x3:Int)=>AI (ao a0 a5 1) λx4=>AI (bE x4 [vi x2]) λx5=>AI (ao a0 (i64.wrap (a1+a6)) 1) λx6=>AI (bE x6 [vi x3]) λx7=>G a0 a1 a2 a3 a4 (i64.wrap (a5+1))
def mw (G:Sl->Int->Int->Addr->Int->Int->M Unit)(n:Nat)(a0:Sl)(a1 a2:Int)(a3:Addr)(a4 a5:Int):M Unit:=AI (xZ (decide (4≠0))) λx0=>if decide (a5<=i64.wrap (i64.wrap (a1+i64.wrap (i64.wrap (a2.tdiv 4)*2))+1)) then AI (qh n (some a3)) λx1=>if decide (a2<=i64.wrap (IntKind.u64.wrap (↑(BitVec.ofInt 64 x1&&&BitVec.ofInt 64 (IntKind.u64.wrap (a4-1))).toNat:Int))) then ef G n a0 a1 a2 a3 a4 a5 (i64.wrap (i64.wrap (IntKind.u64.wrap (↑(BitVec.ofInt 64 x1&&&BitVec.ofInt 64 (IntKind.u64.wrap (a4-1))).toNat:Int))-a2)) else ef G n a0 a1 a2 a3 a4 a5 (i64.wrap (IntKind.u64.wrap (↑(BitVec.ofInt 64 x1&&&BitVec.ofInt 64 (IntKind.u64.wrap (a4-1))).toNat:Int))) else AS ()
def dK:Nat->Sl->Int->Int->Addr->Int->Int->M Unit|0=>λ_ _ _ _ _ _=>AT|n+1=>mw (dK n) n
def ma (n:Nat):=ef (dK n) n
def jW (n:Nat)(a0:Sl)(a1 a2:Int)(a3:ξ):M Unit:=if decide (8<=i64.wrap (a2-a1)) then AI (aJ none zm [.int IntKind.u64 0]) λx0=>AI (bE (aw x0) [.int IntKind.u64 (IntKind.u64.wrap (i64.wrap (a2-a1)))]) λx1=>AI (pw n (i64.wrap (a2-a1))) λx2=>AI (xZ (decide (4≠0))) λx3=>AI (dK n a0 a1 (i64.wrap (a2-a1)) (aw x0) x2 (i64.wrap (i64.wrap (a1+i64.wrap (i64.wrap ((i64.wrap (a2-a1)).tdiv 4)*2))-1))) λx4=>AS () else AS ()
abbrev UQ (n:Nat):cr:=⟨87,[cH,aB,aB,rX],[],υ4 (jW n)⟩
abbrev Gb:L1:=⟨[0,1,1,1,0,1,1],[(0,cH),(1,aB),(8,aB),(9,aV),(10,.one (.int .u64)),(11,aB)],[],[11,12]++List.range' 28 39,0,λn=>υ6 (dK n)⟩
def QF (i:Nat):Option (List (Nat×η)):=Κ i 10 (Ω [0,1,2,3,4,5,6,7,8,9,10,12,13,14,11,15,16,17,18,19]) none
abbrev NO (n:Nat):List (jd Unit):=[⟨[1,1,0,0,1,0,0,1,1,1,0,1,1],[.aD 1,.code [1,1,0,0,1,1,1,0,1,1]],[(0,cH),(1,aB),(8,aB),(9,aV),(10,.one (.int .u64)),(11,aB),(12,aB)],υ7 (ma n)⟩]
theorem NP (n:Nat):kE TZp Tryz.f87 (Gb.e n) Gb.ws:=L1.ok Tryz.f87 Gb n YB (dr:=QF) (jt:=NO) (hT:=λm _=>⟨.nil,Zd m,.nil,.nil,(.cc .nil)⟩)
theorem nv (n:Nat):bz TZp (UQ n):=cQ Tryz.f87 (YB n) (ll:=[Gb.e n]) (dr:=QF) (hT:=⟨.nil,Zd n,.nil,(.cc (NP n) .nil),.nil⟩)
abbrev YC (n:Nat):List cr:=UQ n::YB n
theorem Ze (n:Nat):bA TZp (YC n):=.cons (nv n) (Zd n)
def mM (G:Sl->Int->Int->M Unit)(n:Nat)(a0:Sl)(a1 a2:Int):M Unit:=if decide (a1<a2) then AI (ao a0 a2 1) λx0=>AI (ao a0 a1 1) λx1=>AI (ar li x0) λ(x2:Int)=>AI (ar li x1) λ(x3:Int)=>AI (ao a0 a1 1) λx4=>AI (bE x4 [vi x2]) λx5=>AI (ao a0 a2 1) λx6=>AI (bE x6 [vi x3]) λx7=>G a0 (i64.wrap (a1+1)) (i64.wrap (a2-1)) else AS ()
def fk:Nat->Sl->Int->Int->M Unit|0=>λ_ _ _=>AT|n+1=>mM (fk n) n
def ku (n:Nat)(a0:Sl)(a1 a2:Int)(a3:ξ):M Unit:=AI (fk n a0 a1 (i64.wrap (a2-1))) λx0=>AS ()
abbrev UR (n:Nat):cr:=⟨89,[cH,aB,aB,rX],[],υ4 (ku n)⟩
abbrev Gc:L1:=⟨[0,1,1],[(0,cH),(8,aB),(9,aB)],[],[8,9]++List.range' 13 21,0,λn=>υ3 (fk n)⟩
def QG (i:Nat):Option (List (Nat×η)):=Κ i 3 (Ω [0,1,2,3,4,5,6,8,9,10,7,11,12,13,14,15]) none
theorem NQ (n:Nat):kE TZp Tryz.f89 (Gc.e n) Gc.ws:=L1.ok Tryz.f89 Gc n YC (dr:=QG) (hT:=λm _=>.m1 (Ze m))
theorem nR (n:Nat):bz TZp (UR n):=cQ Tryz.f89 (YC n) (ll:=[Gc.e n]) (dr:=QG) (hT:=⟨.nil,Ze n,.nil,(.cc (NQ n) .nil),.nil⟩)
abbrev Z9 (n:Nat):List cr:=UR n::YC n
theorem K30 (n:Nat):bA TZp (Z9 n):=.cons (nR n) (Ze n)
structure ab where
 cI:Sl->ξ->M Unit
 cf:Sl->Int->Int->Int->ξ->Bool->Bool->M Unit
 cO:Sl->Int->Int->Int->ξ->M Unit
 gu:θ->Int->θ->Int->μ->M Int
 bT:Sl->Int->Int->ξ->Int->Int->M Unit
 bU:Sl->Int->Int->ξ->Int->M Unit
 de:Sl->Int->Int->ξ->M Unit
 dE:Sl->ξ->Int->Int->Int->Int->M Unit
 dF:Sl->ξ->Int->Int->Int->M Unit
 fH:Sl->Int->Int->ξ->M Unit
 dG:Sl->Int->Int->ξ->M (Int×Int)
 bL:Sl->Int->Int->ξ->Int->Int->Int->M Unit
 bM:Sl->Int->Int->ξ->Int->Int->Int->M Unit
 bC:Sl->Int->Int->ξ->Int->Int->M Int
 bD:Sl->Int->Int->ξ->Int->Int->M (Unit⊕Bool)
 bY:Sl->Int->Int->ξ->M Bool
 cy:Sl->Int->ξ->Int->Int->M Int
 cz:Sl->Int->ξ->Int->Int->M Int
 cA:Sl->Int->ξ->Int->Int->M Int
 ed:Sl->Int->Int->Int->ξ->M Int
 dq:Sl->Int->ξ->Int->Int->M Int
 du:Sl->Int->ξ->Int->Int->M Int
 dv:Sl->Int->ξ->Int->Int->M Int
 dw:Sl->Int->ξ->Int->Int->M Int
 dx:Sl->Int->ξ->Int->Int->M Int
 fh:Sl->Int->Int->Int->ξ->M (Int×Bool)
 lh:θ->θ->μ->θ->θ->Sl->Sl->Int->Int->M (Unit⊕Int)
 mh:θ->Int->θ->Int->μ->M Int
 dH:Sl->Int->Int->ξ->Int->M (Unit⊕Unit)
 en:Sl->Int->Int->Int->ξ->M Unit
 bJ:Sl->Int->θ->ξ->M Int
 cY:Sl->Int->Int->Int->θ->ξ->M Int
 fI:Int->Addr->Addr->Sl->Int->Int->M Unit
 ie:θ->Int->M Sl
 cZ:Sl->Int->Int->θ->ξ->M (Int×Int)
 aP:Int->Int->Addr->Addr->M Int
def aA (G:ab)(n:Nat)(x:ξ)(a0 a1:Int):M Int:=if uL iw x then AI (nr [aV,aV] x) λ(c:Addr×Addr)=>aG n a0 a1 c.1 c.2 else if uL nK x then AI (nr [aV,aV] x) λ(c:Addr×Addr)=>G.aP a0 a1 c.1 c.2 else AT
abbrev gY:=aA
abbrev fc:=aA
abbrev fe:=aA
abbrev eR:=aA
abbrev gQ:=aA
abbrev gR:=aA
abbrev jf:=aA
abbrev jg:=aA
abbrev iX:=aA
abbrev iY:=aA
abbrev jM:=aA
abbrev jN:=aA
abbrev kz:=aA
def jm (G:ab)(n:Nat)(a0:Sl)(a1:ξ):M Unit:=AI (p6 n (IntKind.u64.wrap (↑a0.len:Int))) λx0=>AI (G.cO a0 0 (↑a0.len:Int) x0 a1) λx1=>AS ()
def fm (G:ab)(n:Nat)(a0:Sl)(a1 a2 a3:Int)(a4:ξ)(a5 a6:Bool)(a7 a8:Int):M Unit:=AI (G.fh a0 a1 a2 a8 a4) λx0=>AI (xZ (decide (8≠0))) λx1=>if decide (i64.wrap (x0.1-a1)<i64.wrap (a2-x0.1)) then AI (G.cO a0 a1 x0.1 a3 a4) λx2=>G.cf a0 (i64.wrap (x0.1+1)) a2 a3 a4 (decide (i64.wrap (a7.tdiv 8)<=i64.wrap (x0.1-a1))) x0.2 else AI (G.cO a0 (i64.wrap (x0.1+1)) a2 a3 a4) λx2=>G.cf a0 a1 x0.1 a3 a4 (decide (i64.wrap (a7.tdiv 8)<=i64.wrap (a2-x0.1))) x0.2
def cM (G:ab)(n:Nat)(a0:Sl)(a1 a2 a3:Int)(a4:ξ)(a5 a6:Bool)(a7 a8:Int):M Unit:=if decide (0<a1) then AI (ao a0 (i64.wrap (a1-1)) 1) λx0=>AI (ao a0 a8 1) λx1=>AI (ar li x0) λ(x2:Int)=>AI (ar li x1) λ(x3:Int)=>AI (aA G n a4 x2 x3) λx4=>if !decide (x4<0) then AI (G.ed a0 a1 a2 a8 a4) λx5=>G.cf a0 x5 a2 a3 a4 a5 a6 else fm G n a0 a1 a2 a3 a4 a5 a6 a7 a8 else fm G n a0 a1 a2 a3 a4 a5 a6 a7 a8
def dU (G:ab)(n:Nat)(a0:Sl)(a1 a2 a3:Int)(a4:ξ)(a5 a6:Bool)(a7 a8 a9:Int):M Unit:=if a5 then if a6 then if decide (a9=1) then AI (G.bY a0 a1 a2 a4) λx0=>if x0 then AS () else cM G n a0 a1 a2 a3 a4 a5 a6 a7 a8 else cM G n a0 a1 a2 a3 a4 a5 a6 a7 a8 else cM G n a0 a1 a2 a3 a4 a5 a6 a7 a8 else cM G n a0 a1 a2 a3 a4 a5 a6 a7 a8
def dV (G:ab)(n:Nat)(a0:Sl)(a1 a2 a3:Int)(a4:ξ)(a5 a6:Bool)(a7:Int):M Unit:=AI (G.dG a0 a1 a2 a4) λx0=>if decide (x0.2=2) then AI (ku n a0 a1 a2 a4) λx1=>dU G n a0 a1 a2 a3 a4 a5 a6 a7 (i64.wrap (i64.wrap (a2-1)-i64.wrap (x0.1-a1))) 1 else dU G n a0 a1 a2 a3 a4 a5 a6 a7 x0.1 x0.2
def gm (G:ab)(n:Nat)(a0:Sl)(a1 a2 a3:Int)(a4:ξ)(a5 a6:Bool):M Unit:=if decide (i64.wrap (a2-a1)<=12) then AI (G.de a0 a1 a2 a4) λx0=>AS () else if decide (a3=0) then AI (G.fH a0 a1 a2 a4) λx0=>AS () else if !a5 then AI (jW n a0 a1 a2 a4) λx0=>dV G n a0 a1 a2 (i64.wrap (a3-1)) a4 a5 a6 (i64.wrap (a2-a1)) else dV G n a0 a1 a2 a3 a4 a5 a6 (i64.wrap (a2-a1))
def iB (G:ab)(n:Nat)(a0:Sl)(a1 a2 a3:Int)(a4:ξ):M Unit:=AI (G.cf a0 a1 a2 a3 a4 true true) λx0=>AS ()
def qz (G:ab)(n:Nat)(a0:θ)(a1:Int)(a2:θ)(a3:Int)(a4:μ):M Int:=AI (rN ug (Ty.one li) 0 a4 (Value.agg #[vi a1,vi a3])) λ(x0:Bool×Int)=>if x0.1 then AS x0.2 else AI (G.mh a0 a1 a2 a3 a4) λx1=>if !a4.isNone then AI (B4 ug a4 (Value.agg #[vi a1,vi a3]) (vi x1)) λx2=>AS x1 else AS x1
def gp (G:ab)(n:Nat)(a0:Sl)(a1 a2:Int)(a3:ξ)(a4 a5:Int):M Unit:=AI (ao a0 (i64.wrap (a5-1)) 1) λx0=>AI (ao a0 a5 1) λx1=>AI (ar li x0) λ(x2:Int)=>AI (ar li x1) λ(x3:Int)=>AI (ao a0 a5 1) λx4=>AI (bE x4 [vi x2]) λx5=>AI (ao a0 (i64.wrap (a5-1)) 1) λx6=>AI (bE x6 [vi x3]) λx7=>G.bT a0 a1 a2 a3 a4 (i64.wrap (a5-1))
def eD (G:ab)(n:Nat)(a0:Sl)(a1 a2:Int)(a3:ξ)(a4 a5:Int):M Unit:=if decide (a1<a5) then AI (ao a0 a5 1) λx0=>AI (ao a0 (i64.wrap (a5-1)) 1) λx1=>AI (ar li x0) λ(x2:Int)=>AI (ar li x1) λ(x3:Int)=>AI (gY G n a3 x2 x3) λx4=>if decide (x4<0) then gp G n a0 a1 a2 a3 a4 a5 else AS () else AS ()
def cq (G:ab)(n:Nat)(a0:Sl)(a1 a2:Int)(a3:ξ)(a4:Int):M Unit:=if decide (a4<a2) then AI (G.bT a0 a1 a2 a3 a4 a4) λx0=>G.bU a0 a1 a2 a3 (i64.wrap (a4+1)) else AS ()
def fq (G:ab)(n:Nat)(a0:Sl)(a1 a2:Int)(a3:ξ):M Unit:=AI (G.bU a0 a1 a2 a3 (i64.wrap (a1+1))) λx0=>AS ()
def oV (G:ab)(n:Nat)(a0:Sl)(a1:ξ)(a2 a3 a4 a5:Int):M Unit:=if decide (0<=a5) then AI (G.en a0 a5 a4 a2 a1) λx0=>G.dE a0 a1 a2 a3 a4 (i64.wrap (a5-1)) else AS ()
def oW (G:ab)(n:Nat)(a0:Sl)(a1:ξ)(a2 a3 a4:Int):M Unit:=if decide (0<=a4) then AI (ao a0 (i64.wrap (a2+a4)) 1) λx0=>AI (ao a0 a2 1) λx1=>AI (ar li x0) λ(x2:Int)=>AI (ar li x1) λ(x3:Int)=>AI (ao a0 a2 1) λx4=>AI (bE x4 [vi x2]) λx5=>AI (ao a0 (i64.wrap (a2+a4)) 1) λx6=>AI (bE x6 [vi x3]) λx7=>AI (G.en a0 a3 a4 a2 a1) λx8=>G.dF a0 a1 a2 a3 (i64.wrap (a4-1)) else AS ()
def qA (G:ab)(n:Nat)(a0:Sl)(a1 a2:Int)(a3:ξ):M Unit:=AI (xZ (decide (2≠0))) λx0=>AI (G.dE a0 a3 a1 0 (i64.wrap (a2-a1)) (i64.wrap ((i64.wrap (i64.wrap (a2-a1)-1)).tdiv 2))) λx1=>AI (G.dF a0 a3 a1 0 (i64.wrap (i64.wrap (a2-a1)-1))) λx2=>AS ()
def bS (G:ab)(n:Nat)(a0:Addr)(a1:Int):M (Int×Int):=AI (ar li a0) λ(x0:Int)=>if decide (x0=0) then AS (a1,1) else if decide (x0=12) then AS (a1,2) else AS (a1,0)
def fX (G:ab)(n:Nat)(a0:Sl)(a1 a2:Int)(a3:ξ):M (Int×Int):=AI (aJ none ay [vi 0]) λx0=>AI (xZ (decide (4≠0))) λx1=>AI (xZ (decide (4≠0))) λx2=>AI (xZ (decide (4≠0))) λx3=>if decide (8<=i64.wrap (a2-a1)) then if decide (50<=i64.wrap (a2-a1)) then AI (G.bJ a0 (i64.wrap (a1+i64.wrap (i64.wrap ((i64.wrap (a2-a1)).tdiv 4)*1))) (some (aw x0)) a3) λx4=>AI (G.bJ a0 (i64.wrap (a1+i64.wrap (i64.wrap ((i64.wrap (a2-a1)).tdiv 4)*2))) (some (aw x0)) a3) λx5=>AI (G.bJ a0 (i64.wrap (a1+i64.wrap (i64.wrap ((i64.wrap (a2-a1)).tdiv 4)*3))) (some (aw x0)) a3) λx6=>AI (G.cY a0 x4 x5 x6 (some (aw x0)) a3) λx7=>bS G n (aw x0) x7 else AI (G.cY a0 (i64.wrap (a1+i64.wrap (i64.wrap ((i64.wrap (a2-a1)).tdiv 4)*1))) (i64.wrap (a1+i64.wrap (i64.wrap ((i64.wrap (a2-a1)).tdiv 4)*2))) (i64.wrap (a1+i64.wrap (i64.wrap ((i64.wrap (a2-a1)).tdiv 4)*3))) (some (aw x0)) a3) λx4=>bS G n (aw x0) x4 else bS G n (aw x0) (i64.wrap (a1+i64.wrap (i64.wrap ((i64.wrap (a2-a1)).tdiv 4)*2)))
def kH (G:ab)(n:Nat)(a0:Sl)(a1 a2:Int)(a3:ξ)(a4 a5 a6:Int):M Unit:=if decide (1<=a6) then AI (ao a0 a6 1) λx0=>AI (ao a0 (i64.wrap (a6-1)) 1) λx1=>AI (ar li x0) λ(x2:Int)=>AI (ar li x1) λ(x3:Int)=>AI (fe G n a3 x2 x3) λx4=>if !decide (x4<0) then AS () else AI (ao a0 (i64.wrap (a6-1)) 1) λx5=>AI (ao a0 a6 1) λx6=>AI (ar li x5) λ(x7:Int)=>AI (ar li x6) λ(x8:Int)=>AI (ao a0 a6 1) λx9=>AI (bE x9 [vi x7]) λeU=>AI (ao a0 (i64.wrap (a6-1)) 1) λx11=>AI (bE x11 [vi x8]) λx12=>G.bL a0 a1 a2 a3 a4 a5 (i64.wrap (a6-1)) else AS ()
def kI (G:ab)(n:Nat)(a0:Sl)(a1 a2:Int)(a3:ξ)(a4 a5 a6:Int):M Unit:=if decide (a6<a2) then AI (ao a0 a6 1) λx0=>AI (ao a0 (i64.wrap (a6-1)) 1) λx1=>AI (ar li x0) λ(x2:Int)=>AI (ar li x1) λ(x3:Int)=>AI (eR G n a3 x2 x3) λx4=>if !decide (x4<0) then AS () else AI (ao a0 (i64.wrap (a6-1)) 1) λx5=>AI (ao a0 a6 1) λx6=>AI (ar li x5) λ(x7:Int)=>AI (ar li x6) λ(x8:Int)=>AI (ao a0 a6 1) λx9=>AI (bE x9 [vi x7]) λeU=>AI (ao a0 (i64.wrap (a6-1)) 1) λx11=>AI (bE x11 [vi x8]) λx12=>G.bM a0 a1 a2 a3 a4 a5 (i64.wrap (a6+1)) else AS ()
def bI (G:ab)(n:Nat)(a0:Sl)(a1 a2:Int)(a3:ξ)(a4 a5:Int):M Int:=if decide (a4<a2) then AI (ao a0 a4 1) λx0=>AI (ao a0 (i64.wrap (a4-1)) 1) λx1=>AI (ar li x0) λ(x2:Int)=>AI (ar li x1) λ(x3:Int)=>AI (fc G n a3 x2 x3) λx4=>if !decide (x4<0) then G.bC a0 a1 a2 a3 (i64.wrap (a4+1)) a5 else AS a4 else AS a4
def cX (G:ab)(n:Nat)(a0:Sl)(a1 a2:Int)(a3:ξ)(a4 a5:Int):M (Unit⊕Bool):=if decide (2<=i64.wrap (a2-a4)) then AI (G.bM a0 a1 a2 a3 a4 a5 (i64.wrap (a4+1))) λx0=>G.bD a0 a1 a2 a3 a4 (i64.wrap (a5+1)) else G.bD a0 a1 a2 a3 a4 (i64.wrap (a5+1))
def dA (G:ab)(n:Nat)(a0:Sl)(a1 a2:Int)(a3:ξ)(a4 a5:Int):M (Unit⊕Bool):=if decide (a5<5) then AI (G.bC a0 a1 a2 a3 a4 a5) λx0=>if decide (x0=a2) then AS (Sum.inr true) else if decide (i64.wrap (a2-a1)<50) then AS (Sum.inr false) else AI (ao a0 (i64.wrap (x0-1)) 1) λx1=>AI (ao a0 x0 1) λx2=>AI (ar li x1) λ(x3:Int)=>AI (ar li x2) λ(x4:Int)=>AI (ao a0 x0 1) λx5=>AI (bE x5 [vi x3]) λx6=>AI (ao a0 (i64.wrap (x0-1)) 1) λx7=>AI (bE x7 [vi x4]) λx8=>if decide (2<=i64.wrap (x0-a1)) then AI (G.bL a0 a1 a2 a3 x0 a5 (i64.wrap (x0-1))) λx9=>cX G n a0 a1 a2 a3 x0 a5 else cX G n a0 a1 a2 a3 x0 a5 else AS (Sum.inl ())
def ea (G:ab)(n:Nat)(a0:Sl)(a1 a2:Int)(a3:ξ):M Bool:=AI (G.bD a0 a1 a2 a3 (i64.wrap (a1+1)) 0) (cn (λx0=>AS false) (λx0=>AS x0))
def mc (G:ab)(n:Nat)(a0:Sl)(a1:Int)(a2:ξ)(a3 a4:Int):M Int:=if decide (a3<=a4) then AI (ao a0 a1 1) λx0=>AI (ao a0 a4 1) λx1=>AI (ar li x0) λ(x2:Int)=>AI (ar li x1) λ(x3:Int)=>AI (gR G n a2 x2 x3) λx4=>if decide (x4<0) then G.cy a0 a1 a2 a3 (i64.wrap (a4-1)) else AS a4 else AS a4
def me (G:ab)(n:Nat)(a0:Sl)(a1:Int)(a2:ξ)(a3 a4:Int):M Int:=if decide (a3<=a4) then AI (ao a0 a1 1) λx0=>AI (ao a0 a3 1) λx1=>AI (ar li x0) λ(x2:Int)=>AI (ar li x1) λ(x3:Int)=>AI (gQ G n a2 x2 x3) λx4=>if !decide (x4<0) then G.cz a0 a1 a2 (i64.wrap (a3+1)) a4 else AS a3 else AS a3
def mf (G:ab)(n:Nat)(a0:Sl)(a1:Int)(a2:ξ)(a3 a4:Int):M Int:=AI (G.cz a0 a1 a2 a3 a4) λx0=>AI (G.cy a0 a1 a2 x0 a4) λx1=>if decide (x1<x0) then AS x0 else AI (ao a0 x1 1) λx2=>AI (ao a0 x0 1) λx3=>AI (ar li x2) λ(x4:Int)=>AI (ar li x3) λ(x5:Int)=>AI (ao a0 x0 1) λx6=>AI (bE x6 [vi x4]) λx7=>AI (ao a0 x1 1) λx8=>AI (bE x8 [vi x5]) λx9=>G.cA a0 a1 a2 (i64.wrap (x0+1)) (i64.wrap (x1-1))
def nw (G:ab)(n:Nat)(a0:Sl)(a1 a2 a3:Int)(a4:ξ):M Int:=AI (ao a0 a3 1) λx0=>AI (ao a0 a1 1) λx1=>AI (ar li x0) λ(x2:Int)=>AI (ar li x1) λ(x3:Int)=>AI (ao a0 a1 1) λx4=>AI (bE x4 [vi x2]) λx5=>AI (ao a0 a3 1) λx6=>AI (bE x6 [vi x3]) λx7=>AI (G.cA a0 a1 a4 (i64.wrap (a1+1)) (i64.wrap (a2-1))) λx8=>AS x8
def oq (G:ab)(n:Nat)(a0:Sl)(a1:Int)(a2:ξ)(a3 a4:Int):M Int:=if decide (a3<=a4) then AI (ao a0 a4 1) λx0=>AI (ao a0 a1 1) λx1=>AI (ar li x0) λ(x2:Int)=>AI (ar li x1) λ(x3:Int)=>AI (iY G n a2 x2 x3) λx4=>if !decide (x4<0) then G.dq a0 a1 a2 a3 (i64.wrap (a4-1)) else AS a4 else AS a4
def ot (G:ab)(n:Nat)(a0:Sl)(a1:Int)(a2:ξ)(a3 a4:Int):M Int:=if decide (a3<=a4) then AI (ao a0 a3 1) λx0=>AI (ao a0 a1 1) λx1=>AI (ar li x0) λ(x2:Int)=>AI (ar li x1) λ(x3:Int)=>AI (iX G n a2 x2 x3) λx4=>if decide (x4<0) then G.du a0 a1 a2 (i64.wrap (a3+1)) a4 else AS a3 else AS a3
def ou (G:ab)(n:Nat)(a0:Sl)(a1:Int)(a2:ξ)(a3 a4:Int):M Int:=AI (G.du a0 a1 a2 a3 a4) λx0=>AI (G.dq a0 a1 a2 x0 a4) λx1=>if decide (x1<x0) then AS x1 else AI (ao a0 x1 1) λx2=>AI (ao a0 x0 1) λx3=>AI (ar li x2) λ(x4:Int)=>AI (ar li x3) λ(x5:Int)=>AI (ao a0 x0 1) λx6=>AI (bE x6 [vi x4]) λx7=>AI (ao a0 x1 1) λx8=>AI (bE x8 [vi x5]) λx9=>G.dv a0 a1 a2 (i64.wrap (x0+1)) (i64.wrap (x1-1))
def ov (G:ab)(n:Nat)(a0:Sl)(a1:Int)(a2:ξ)(a3 a4:Int):M Int:=if decide (a3<=a4) then AI (ao a0 a4 1) λx0=>AI (ao a0 a1 1) λx1=>AI (ar li x0) λ(x2:Int)=>AI (ar li x1) λ(x3:Int)=>AI (jg G n a2 x2 x3) λx4=>if !decide (x4<0) then G.dw a0 a1 a2 a3 (i64.wrap (a4-1)) else AS a4 else AS a4
def ow (G:ab)(n:Nat)(a0:Sl)(a1:Int)(a2:ξ)(a3 a4:Int):M Int:=if decide (a3<=a4) then AI (ao a0 a3 1) λx0=>AI (ao a0 a1 1) λx1=>AI (ar li x0) λ(x2:Int)=>AI (ar li x1) λ(x3:Int)=>AI (jf G n a2 x2 x3) λx4=>if decide (x4<0) then G.dx a0 a1 a2 (i64.wrap (a3+1)) a4 else AS a3 else AS a3
def qi (G:ab)(n:Nat)(a0:Sl)(a1 a2 a3:Int)(a4:ξ):M (Int×Bool):=AI (ao a0 a3 1) λx0=>AI (ao a0 a1 1) λx1=>AI (ar li x0) λ(x2:Int)=>AI (ar li x1) λ(x3:Int)=>AI (ao a0 a1 1) λx4=>AI (bE x4 [vi x2]) λx5=>AI (ao a0 a3 1) λx6=>AI (bE x6 [vi x3]) λx7=>AI (G.dx a0 a1 a4 (i64.wrap (a1+1)) (i64.wrap (a2-1))) λx8=>AI (G.dw a0 a1 a4 x8 (i64.wrap (a2-1))) λx9=>if decide (x9<x8) then AI (ao a0 a1 1) λeU=>AI (ao a0 x9 1) λx11=>AI (ar li eU) λ(x12:Int)=>AI (ar li x11) λ(x13:Int)=>AI (ao a0 x9 1) λx14=>AI (bE x14 [vi x12]) λx15=>AI (ao a0 a1 1) λx16=>AI (bE x16 [vi x13]) λx17=>AS (x9,true) else AI (ao a0 x9 1) λeU=>AI (ao a0 x8 1) λx11=>AI (ar li eU) λ(x12:Int)=>AI (ar li x11) λ(x13:Int)=>AI (ao a0 x8 1) λx14=>AI (bE x14 [vi x12]) λx15=>AI (ao a0 x9 1) λx16=>AI (bE x16 [vi x13]) λx17=>AI (G.dv a0 a1 a4 (i64.wrap (x8+1)) (i64.wrap (x9-1))) λx18=>AI (ao a0 a1 1) λx19=>AI (ao a0 x18 1) λx20=>AI (ar li x19) λ(x21:Int)=>AI (ar li x20) λ(x22:Int)=>AI (ao a0 x18 1) λx23=>AI (bE x23 [vi x21]) λx24=>AI (ao a0 a1 1) λx25=>AI (bE x25 [vi x22]) λx26=>AS (x18,false)
def lQ (G:ab)(n:Nat)(a0 a1:θ)(a2:μ)(a3 a4:θ)(a5 a6:Sl)(a7 a8 a9:Int):M (Unit⊕Int):=AI (nn a3) λx0=>AI (ao a5 a7 1) λx1=>AI (nn a4) λx2=>AI (ao a6 a7 1) λx3=>AI (ar .sl (x0.plus 4)) λ(x4:Sl)=>AI (ar li x1) λ(x5:Int)=>AI (ao x4 x5 1) λx6=>AI (ar li x6) λ(x7:Int)=>AI (ar .sl (x2.plus 4)) λ(x8:Sl)=>AI (ar li x3) λ(x9:Int)=>AI (ao x8 x9 1) λeU=>AI (ar li eU) λ(x11:Int)=>AI (G.gu a0 x7 a1 x11 a2) λx12=>if !decide (x12=0) then AS (Sum.inr x12) else G.lh a0 a1 a2 a3 a4 a5 a6 a8 (i64.wrap (a9+1))
def zr (G:ab)(n:Nat)(a0 a1:θ)(a2:μ)(a3 a4:θ)(a5 a6:Sl)(a7 a8:Int):M (Unit⊕Int):=if decide (a8<a7) then AI (nn a3) λx0=>AI (ar li (x0.plus 0)) λ(x1:Int)=>if decide (x1=10) then AI (nn a3) λx2=>AI (ao a5 a8 1) λx3=>AI (nn a4) λx4=>AI (ao a6 a8 1) λx5=>AI (ar .sl (x2.plus 3)) λ(x6:Sl)=>AI (ar li x3) λ(x7:Int)=>AI (ao x6 x7 1) λx8=>AI (ar li x8) λ(x9:Int)=>AI (ar .sl (x4.plus 3)) λ(eU:Sl)=>AI (ar li x5) λ(x11:Int)=>AI (ao eU x11 1) λx12=>AI (ar li x12) λ(x13:Int)=>AI (G.gu a0 x9 a1 x13 none) λx14=>if !decide (x14=0) then AS (Sum.inr x14) else lQ G n a0 a1 a2 a3 a4 a5 a6 a8 a7 a8 else lQ G n a0 a1 a2 a3 a4 a5 a6 a8 a7 a8 else AS (Sum.inl ())
def r7 (G:ab)(n:Nat)(a0:θ)(a1:Int)(a2:θ)(a3:Int)(a4:μ):M Int:=AI (nn a0) λx0=>AI (nn a2) λx1=>AI (ar .sl ((x0.plus 0).plus 0)) λ(x2:Sl)=>AI (ao x2 a1 5) λx3=>AI (ar .sl ((x1.plus 0).plus 0)) λ(x4:Sl)=>AI (ao x4 a3 5) λx5=>AI (nn (some x3)) λx6=>AI (nn (some x5)) λx7=>AI (ar li (x6.plus 0)) λ(x8:Int)=>AI (ar li (x7.plus 0)) λ(x9:Int)=>if decide (x8<x9) then AS (-1) else AI (nn (some x3)) λeU=>AI (nn (some x5)) λx11=>AI (ar li (eU.plus 0)) λ(x12:Int)=>AI (ar li (x11.plus 0)) λ(x13:Int)=>if decide (x13<x12) then AS 1 else AI (nn (some x3)) λx14=>AI (nn (some x5)) λx15=>AI (ar .bool (x14.plus 2)) λ(x16:Bool)=>AI (ar .bool (x15.plus 2)) λ(x17:Bool)=>if !x16==x17 then AI (nn (some x5)) λx18=>AI (ar .bool (x18.plus 2)) λ(x19:Bool)=>if x19 then AS (-1) else AS 1 else AI (nn (some x3)) λx18=>AI (nn (some x3)) λx19=>AI (nn (some x5)) λx20=>AI (ar li (x18.plus 0)) λ(x21:Int)=>AI (ar .str (x19.plus 1)) λ(x22:ζ)=>AI (ar .str (x20.plus 1)) λ(x23:ζ)=>AI (ri n x21 x22 x23) λx24=>if !decide (x24=0) then AS x24 else AI (G.ie a0 a1) λx25=>AI (G.ie a2 a3) λx26=>AI (G.lh a0 a2 a4 (some x3) (some x5) x25 x26 (if (↑x26.len:Int)<(↑x25.len:Int) then (↑x26.len:Int) else (↑x25.len:Int)) 0) (cn (λx27=>if decide ((↑x25.len:Int)<(↑x26.len:Int)) then AS (-1) else if decide ((↑x26.len:Int)<(↑x25.len:Int)) then AS 1 else AS 0) (λx27=>AS x27))
def dL (G:ab)(n:Nat)(a0:Sl)(a1 a2:Int)(a3:ξ)(a4 a5:Int):M (Unit⊕Unit):=AI (ao a0 (i64.wrap (a2+a4)) 1) λx0=>AI (ao a0 (i64.wrap (a2+a5)) 1) λx1=>AI (ar li x0) λ(x2:Int)=>AI (ar li x1) λ(x3:Int)=>AI (jN G n a3 x2 x3) λx4=>if !decide (x4<0) then AS (Sum.inr ()) else AI (ao a0 (i64.wrap (a2+a5)) 1) λx5=>AI (ao a0 (i64.wrap (a2+a4)) 1) λx6=>AI (ar li x5) λ(x7:Int)=>AI (ar li x6) λ(x8:Int)=>AI (ao a0 (i64.wrap (a2+a4)) 1) λx9=>AI (bE x9 [vi x7]) λeU=>AI (ao a0 (i64.wrap (a2+a5)) 1) λx11=>AI (bE x11 [vi x8]) λx12=>G.dH a0 a1 a2 a3 a5
def oX (G:ab)(n:Nat)(a0:Sl)(a1 a2:Int)(a3:ξ)(a4:Int):M (Unit⊕Unit):=if decide (a1<=i64.wrap (i64.wrap (2*a4)+1)) then AS (Sum.inl ()) else if decide (i64.wrap (i64.wrap (i64.wrap (2*a4)+1)+1)<a1) then AI (ao a0 (i64.wrap (a2+i64.wrap (i64.wrap (2*a4)+1))) 1) λx0=>AI (ao a0 (i64.wrap (i64.wrap (a2+i64.wrap (i64.wrap (2*a4)+1))+1)) 1) λx1=>AI (ar li x0) λ(x2:Int)=>AI (ar li x1) λ(x3:Int)=>AI (jM G n a3 x2 x3) λx4=>if decide (x4<0) then dL G n a0 a1 a2 a3 a4 (i64.wrap (i64.wrap (i64.wrap (2*a4)+1)+1)) else dL G n a0 a1 a2 a3 a4 (i64.wrap (i64.wrap (2*a4)+1)) else dL G n a0 a1 a2 a3 a4 (i64.wrap (i64.wrap (2*a4)+1))
def qB (G:ab)(n:Nat)(a0:Sl)(a1 a2 a3:Int)(a4:ξ):M Unit:=AI (G.dH a0 a2 a3 a4 a1) (cn (λx0=>AS ()) (λx0=>AS ()))
def eT (G:ab)(n:Nat)(a0:Sl)(a1:Int)(a2:θ)(a3:ξ):M Int:=AI (G.cY a0 (i64.wrap (a1-1)) a1 (i64.wrap (a1+1)) a2 a3) λx0=>AS x0
def iZ (G:ab)(n:Nat)(a0:Sl)(a1 a2 a3:Int)(a4:θ)(a5:ξ):M Int:=AI (G.cZ a0 a1 a2 a4 a5) λx0=>AI (G.cZ a0 x0.2 a3 a4 a5) λx1=>AI (G.cZ a0 x0.1 x1.1 a4 a5) λx2=>AS x2.2
def tS (G:ab)(n:Nat)(a0:Int)(a1 a2:Addr)(a3:Sl)(a4 a5:Int):M Unit:=if decide (a5<a4) then AI (ao a3 a5 1) λx0=>AI (bE x0 [vi a5]) λx1=>G.fI a0 a1 a2 a3 a4 (i64.wrap (a5+1)) else AS ()
def mN (G:ab)(n:Nat)(a0:Int)(a1 a2:Addr)(a3:Sl):M Sl:=AI (G.cI a3 (Value.func (Fn.func nK) #[] #[.pointer (some a1),.pointer (some a2)])) λx0=>AI (ar .ptr a1) λ(x1:θ)=>AI (nn x1) λx2=>AI (ar .sl (x2.plus 2)) λ(x3:Sl)=>AI (ao x3 a0 1) λx4=>AI (bE x4 [aS a3]) λx5=>AS a3
def vO (G:ab)(n:Nat)(a0:θ)(a1:Int):M Sl:=AI (aJ none Ad [.pointer a0]) λx0=>AI (ar .ptr (aw x0)) λ(x1:θ)=>AI (nn x1) λx2=>AI (ar .sl ((x2.plus 0).plus 0)) λ(x3:Sl)=>AI (ao x3 a1 5) λx4=>AI (aJ none DS [.pointer none]) λx5=>AI (bE (aw x5) [.pointer (some x4)]) λx6=>AI (ar .ptr (aw x0)) λ(x7:θ)=>AI (nn x7) λx8=>AI (ar .sl (x8.plus 2)) λ(x9:Sl)=>AI (ao x9 a1 1) λeU=>AI (ar .sl eU) λ(x11:Sl)=>if !x11.a.isNone then AI (ar .ptr (aw x0)) λ(x12:θ)=>AI (nn x12) λx13=>AI (ar .sl (x13.plus 2)) λ(x14:Sl)=>AI (ao x14 a1 1) λx15=>AI (ar .sl x15) λ(x16:Sl)=>AS x16 else AI (ar .ptr (aw x5)) λ(x12:θ)=>AI (nn x12) λx13=>AI (ar .sl (x13.plus 4)) λ(x14:Sl)=>AI (pT none ay [vi 0] (↑x14.len:Int) (↑x14.len:Int)) λx15=>AI (G.fI a1 (aw x0) (aw x5) x15 (↑x15.len:Int) 0) λx16=>AI (ar .ptr (aw x5)) λ(x17:θ)=>AI (nn x17) λx18=>AI (ar li (x18.plus 0)) λ(x19:Int)=>if decide (x19=10) then AI (ar .ptr (aw x5)) λ(x20:θ)=>AI (nn x20) λx21=>AI (ar .bool (x21.plus 2)) λ(x22:Bool)=>if !x22 then mN G n a1 (aw x0) (aw x5) x15 else AI (ar .ptr (aw x0)) λ(x23:θ)=>AI (nn x23) λx24=>AI (ar .sl (x24.plus 2)) λ(x25:Sl)=>AI (ao x25 a1 1) λx26=>AI (bE x26 [aS x15]) λx27=>AS x15 else AI (ar .ptr (aw x0)) λ(x20:θ)=>AI (nn x20) λx21=>AI (ar .sl (x21.plus 2)) λ(x22:Sl)=>AI (ao x22 a1 1) λx23=>AI (bE x23 [aS x15]) λx24=>AS x15
def ja (G:ab)(n:Nat)(a0:Sl)(a1 a2:Int)(a3:θ)(a4:ξ):M (Int×Int):=AI (ao a0 a2 1) λx0=>AI (ao a0 a1 1) λx1=>AI (ar li x0) λ(x2:Int)=>AI (ar li x1) λ(x3:Int)=>AI (kz G n a4 x2 x3) λx4=>if decide (x4<0) then AI (nn a3) λx5=>AI (ar li x5) λ(x6:Int)=>AI (nn a3) λx7=>AI (bE x7 [vi (i64.wrap (x6+1))]) λx8=>AS (a2,a1) else AS (a1,a2)
def uo (G:ab)(n:Nat)(a0 a1:Int)(a2 a3:Addr):M Int:=AI (ar .ptr a2) λ(x0:θ)=>AI (ar .ptr a3) λ(x1:θ)=>AI (nn x1) λx2=>AI (ar .sl (x2.plus 3)) λ(x3:Sl)=>AI (ao x3 a0 1) λx4=>AI (ar li x4) λ(x5:Int)=>AI (ar .ptr a2) λ(x6:θ)=>AI (ar .ptr a3) λ(x7:θ)=>AI (nn x7) λx8=>AI (ar .sl (x8.plus 3)) λ(x9:Sl)=>AI (ao x9 a1 1) λeU=>AI (ar li eU) λ(x11:Int)=>AI (G.gu x0 x5 x6 x11 none) λx12=>AS x12
def ab.at:Nat->ab|0=>⟨λ_ _=>AT,λ_ _ _ _ _ _ _=>AT,λ_ _ _ _ _=>AT,λ_ _ _ _ _=>AT,λ_ _ _ _ _ _=>AT,λ_ _ _ _ _=>AT,λ_ _ _ _=>AT,λ_ _ _ _ _ _=>AT,λ_ _ _ _ _=>AT,λ_ _ _ _=>AT,λ_ _ _ _=>AT,λ_ _ _ _ _ _ _=>AT,λ_ _ _ _ _ _ _=>AT,λ_ _ _ _ _ _=>AT,λ_ _ _ _ _ _=>AT,λ_ _ _ _=>AT,λ_ _ _ _ _=>AT,λ_ _ _ _ _=>AT,λ_ _ _ _ _=>AT,λ_ _ _ _ _=>AT,λ_ _ _ _ _=>AT,λ_ _ _ _ _=>AT,λ_ _ _ _ _=>AT,λ_ _ _ _ _=>AT,λ_ _ _ _ _=>AT,λ_ _ _ _ _=>AT,λ_ _ _ _ _ _ _ _ _=>AT,λ_ _ _ _ _=>AT,λ_ _ _ _ _=>AT,λ_ _ _ _ _=>AT,λ_ _ _ _=>AT,λ_ _ _ _ _ _=>AT,λ_ _ _ _ _ _=>AT,λ_ _=>AT,λ_ _ _ _ _=>AT,λ_ _ _ _=>AT⟩|n+1=>⟨jm (ab.at n) n,gm (ab.at n) n,iB (ab.at n) n,qz (ab.at n) n,eD (ab.at n) n,cq (ab.at n) n,fq (ab.at n) n,oV (ab.at n) n,oW (ab.at n) n,qA (ab.at n) n,fX (ab.at n) n,kH (ab.at n) n,kI (ab.at n) n,bI (ab.at n) n,dA (ab.at n) n,ea (ab.at n) n,mc (ab.at n) n,me (ab.at n) n,mf (ab.at n) n,nw (ab.at n) n,oq (ab.at n) n,ot (ab.at n) n,ou (ab.at n) n,ov (ab.at n) n,ow (ab.at n) n,qi (ab.at n) n,zr (ab.at n) n,r7 (ab.at n) n,oX (ab.at n) n,qB (ab.at n) n,eT (ab.at n) n,iZ (ab.at n) n,tS (ab.at n) n,vO (ab.at n) n,ja (ab.at n) n,uo (ab.at n) n⟩
def cI (n:Nat):=(ab.at n).cI
def cf (n:Nat):=(ab.at n).cf
def cO (n:Nat):=(ab.at n).cO
def gu (n:Nat):=(ab.at n).gu
theorem yG (n:Nat):gu (n+1)=qz (ab.at n) n:=rfl
def bT (n:Nat):=(ab.at n).bT
def bU (n:Nat):=(ab.at n).bU
def de (n:Nat):=(ab.at n).de
def dE (n:Nat):=(ab.at n).dE
def dF (n:Nat):=(ab.at n).dF
def fH (n:Nat):=(ab.at n).fH
def dG (n:Nat):=(ab.at n).dG
def bL (n:Nat):=(ab.at n).bL
def bM (n:Nat):=(ab.at n).bM
def bC (n:Nat):=(ab.at n).bC
def bD (n:Nat):=(ab.at n).bD
def bY (n:Nat):=(ab.at n).bY
def cy (n:Nat):=(ab.at n).cy
def cz (n:Nat):=(ab.at n).cz
def cA (n:Nat):=(ab.at n).cA
def ed (n:Nat):=(ab.at n).ed
def dq (n:Nat):=(ab.at n).dq
def du (n:Nat):=(ab.at n).du
def dv (n:Nat):=(ab.at n).dv
def dw (n:Nat):=(ab.at n).dw
def dx (n:Nat):=(ab.at n).dx
def fh (n:Nat):=(ab.at n).fh
def lh (n:Nat):=(ab.at n).lh
def mh (n:Nat):=(ab.at n).mh
theorem zt (n:Nat):mh (n+1)=r7 (ab.at n) n:=rfl
def dH (n:Nat):=(ab.at n).dH
def en (n:Nat):=(ab.at n).en
def bJ (n:Nat):=(ab.at n).bJ
def cY (n:Nat):=(ab.at n).cY
def fI (n:Nat):=(ab.at n).fI
def ie (n:Nat):=(ab.at n).ie
def cZ (n:Nat):=(ab.at n).cZ
def aP (n:Nat):=(ab.at n).aP
def qj (n:Nat):=aA (ab.at n) n
def mO (n:Nat):=gY (ab.at n) n
def kW (n:Nat):=fc (ab.at n) n
def kX (n:Nat):=fe (ab.at n) n
def kJ (n:Nat):=eR (ab.at n) n
def my (n:Nat):=gQ (ab.at n) n
def mz (n:Nat):=gR (ab.at n) n
def oY (n:Nat):=jf (ab.at n) n
def oZ (n:Nat):=jg (ab.at n) n
def ox (n:Nat):=iX (ab.at n) n
def oy (n:Nat):=iY (ab.at n) n
def pJ (n:Nat):=jM (ab.at n) n
def pK (n:Nat):=jN (ab.at n) n
def qC (n:Nat):=kz (ab.at n) n
def o0 (n:Nat):=dV (ab.at n) n
def o5 (n:Nat):=dU (ab.at n) n
def o6 (n:Nat):=cM (ab.at n) n
def o7 (n:Nat):=fm (ab.at n) n
def mi (n:Nat):=gp (ab.at n) n
def oz (n:Nat):=bS (ab.at n) n
def kA (n:Nat):=cX (ab.at n) n
def yH (n:Nat):=lQ (ab.at n) n
def oA (n:Nat):=dL (ab.at n) n
def vf (n:Nat):=mN (ab.at n) n
abbrev QH (n:Nat):cr:=⟨41,[cH,rX],[],υ2 (cI n)⟩
abbrev QI (n:Nat):cr:=⟨64,[cH,aB,aB,aB,rX],[],υ5 (cO n)⟩
abbrev Gd:Lr:=⟨[0,1,1],[(0,cH),(1,aB),(2,aB),(3,aB),(4,rX),(10,kP),(11,kP)],[],[1,2,3]++List.range' 10 138,λn=>υ7 (cf n)⟩
abbrev QJ (n:Nat):cr:=⟨80,[rW,aB,rW,aB,Xi],[aB],υ5 (gu n)⟩
abbrev QK (n:Nat):cr:=⟨85,[cH,aB,aB,rX],[],υ4 (de n)⟩
abbrev Ge:L1:=⟨[0,1],[(0,cH),(1,aB),(2,aB),(3,rX),(8,aB)],[],[8,9]++List.range' 12 41,0,λn=>υ5 (bU n)⟩
abbrev Gf:L1:=⟨[0,1,0,0,1,0,0,1],[(0,cH),(1,aB),(2,aB),(3,rX),(8,aB),(9,aB)],[],[9]++List.range' 18 35,2,λn=>υ6 (bT n)⟩
abbrev QL (n:Nat):cr:=⟨86,[cH,aB,aB,rX],[],υ4 (fH n)⟩
abbrev Gg:L1:=⟨[0,1,0,1,1,1],[(0,cH),(3,rX),(8,aB),(9,aB),(10,aB),(11,aB)],[],[11]++List.range' 20 10,0,λn=>υ6 (dE n)⟩
abbrev Gh:L1:=⟨[0,1,1,1,1,1],[(0,cH),(3,rX),(8,aB),(9,aB),(12,aB)],[],[12]++List.range' 32 28,2,λn=>υ5 (dF n)⟩
abbrev QM (n:Nat):cr:=⟨88,[cH,aB,aB,rX],[aB,aB],υ4 (dG n)⟩
abbrev QN (n:Nat):cr:=⟨90,[cH,aB,aB,rX],[kP],υ4 (bY n)⟩
abbrev Gi:L2:=⟨[0,1,0,1,1],[(0,cH),(1,aB),(2,aB),(3,rX),(9,aB),(10,aB)],[],[(8,kP)],List.range' 8 5++List.range' 15 126,0,.ret,λn=>υ6 (bD n)⟩
abbrev Gj:L1:=⟨[0,0,0,0,1,0,0,1,0,1,1],[(0,cH),(1,aB),(2,aB),(3,rX),(9,aB),(10,aB)],[(9,aB)],[9]++List.range' 19 20,2,λn=>υ6 (bC n)⟩
abbrev Gl:L1:=⟨[0,1,0,1,0,1,1,1,1,0,0,1,0,0,1,0,1,1],[(0,cH),(1,aB),(2,aB),(3,rX),(9,aB),(10,aB),(11,aB)],[],[11]++List.range' 68 33,4,λn=>υ7 (bL n)⟩
abbrev Gm:L1:=⟨[0,1,0,1,1,1,1,1,1,0,0,1,0,0,1,0,1,1],[(0,cH),(1,aB),(2,aB),(3,rX),(9,aB),(10,aB),(12,aB)],[],[12]++List.range' 107 34,6,λn=>υ7 (bM n)⟩
abbrev QP (n:Nat):cr:=⟨91,[cH,aB,aB,aB,rX],[aB],υ5 (ed n)⟩
abbrev Gn:L1:=⟨[0,0,1,1,1],[(0,cH),(1,aB),(4,rX),(11,aB),(12,aB)],[(11,aB)],[11,12]++List.range' 31 58,0,λn=>υ5 (cA n)⟩
abbrev Gp:L1:=⟨[0,0,0,0,0,0,1,1,1],[(0,cH),(1,aB),(4,rX),(11,aB),(12,aB)],[(11,aB)],[11]++List.range' 31 19,2,λn=>υ5 (cz n)⟩
abbrev Gq:L1:=⟨[0,0,1,0,0,0,0,1,1,1],[(0,cH),(1,aB),(4,rX),(11,aB),(12,aB)],[(12,aB)],[12]++List.range' 50 18,4,λn=>υ5 (cy n)⟩
abbrev QQ (n:Nat):cr:=⟨92,[cH,aB,aB,aB,rX],[aB,kP],υ5 (fh n)⟩
abbrev Gr:L1:=⟨[0,0,1,1,1],[(0,cH),(1,aB),(4,rX),(12,aB),(13,aB)],[(12,aB)],[12]++List.range' 32 18,0,λn=>υ5 (dx n)⟩
abbrev Gs:L1:=⟨[0,0,1,1,1,1],[(0,cH),(1,aB),(4,rX),(12,aB),(13,aB)],[(13,aB)],[13]++List.range' 50 19,2,λn=>υ5 (dw n)⟩
abbrev Gt:L1:=⟨[0,0,1,1,1,1,1,1,1,1,1],[(0,cH),(1,aB),(4,rX),(12,aB),(13,aB)],[(13,aB)],[12,13]++List.range' 105 58,4,λn=>υ5 (dv n)⟩
abbrev Gu:L1:=⟨[0,0,0,0,0,0,1,1,1,1,1,1,1,1,1],[(0,cH),(1,aB),(4,rX),(12,aB),(13,aB)],[(12,aB)],[12]++List.range' 105 18,6,λn=>υ5 (du n)⟩
abbrev Gv:L1:=⟨[0,0,1,0,0,0,0,1,1,1,1,1,1,1,1,1],[(0,cH),(1,aB),(4,rX),(12,aB),(13,aB)],[(13,aB)],[13]++List.range' 123 19,8,λn=>υ5 (dq n)⟩
abbrev Kd (n:Nat):cr:=⟨110,[rW,aB,rW,aB,Xi],[aB],υ5 (mh n)⟩
abbrev BQ:L2:=⟨[0,1,0,1,1,1,1,1],[(0,rW),(2,rW),(4,Xi),(11,rW),(12,rW),(14,cH),(15,cH),(93,aB),(94,aB)],[],[(10,aB)],[10,16,17,18]++List.range' 94 62,1,.ret,λn=>υ9 (lh n)⟩
abbrev Ke (n:Nat):cr:=⟨111,[cH,aB,aB,aB,rX],[],υ5 (en n)⟩
abbrev BR:L2:=⟨[0,1],[(0,cH),(2,aB),(3,aB),(4,rX),(10,aB)],[],[],[10,11]++List.range' 13 69,0,.ret,λn=>υ5 (dH n)⟩
abbrev Kf (n:Nat):cr:=⟨114,[cH,aB,rW,rX],[aB],υ4 (bJ n)⟩
abbrev Kg (n:Nat):cr:=⟨115,[cH,aB,aB,aB,rW,rX],[aB],υ6 (cY n)⟩
abbrev Kh (n:Nat):cr:=⟨142,[rW,aB],[cH],υ2 (ie n)⟩
abbrev BS:L1:=⟨[0,1,0,1,1,1,1],[(1,aB),(2,aV),(5,aV),(6,cH),(37,aB),(38,aB)],[],[7]++List.range' 38 8,0,λn=>υ6 (fI n)⟩
abbrev Ki (n:Nat):cr:=⟨143,[cH,aB,aB,rW,rX],[aB,aB],υ5 (cZ n)⟩
abbrev Kj (n:Nat):cr:=⟨170,[aB,aB,aV,aV],[aB],υ4 (aP n)⟩
abbrev uJ (n:Nat):List cr:=QH n::QI n::QJ n::QK n::QL n::QM n::QN n::QP n::QQ n::Kd n::Ke n::Kf n::Kg n::Kh n::Ki n::Kj n::Z9 n
abbrev Kl (n:Nat):List jk:=[⟨84,[aB,aB],[aB],λx a=>qj n x a.1 a.2⟩]
def QR (i:Nat):Option (List (Nat×η)):=Κ i 17 (Ω [0,1,2,3,4,5,6,7,9,10,11,8,12,13,14,15,16]) none
abbrev NR (n:Nat):List (jd Unit):=[⟨[0,1,1,1,1,0,0,0,1,1],[.code [1,1,1,1,1,0,0,0,1,1],.aD 1],[(0,cH),(1,aB),(2,aB),(3,aB),(4,rX),(10,kP),(11,kP),(12,aB)],υ8 (o0 n)⟩, ⟨[0,0,1,1,1,1,1,1,0,0,0,1,1],[.code [1,0,1,1,1,1,1,1,0,0,0,1,1],.code [1,1,1,1,1,1,1,0,0,0,1,1],.aD 1],[(0,cH),(1,aB),(2,aB),(3,aB),(4,rX),(10,kP),(11,kP),(12,aB),(13,aB),(14,aB)],υ10 (o5 n)⟩, ⟨[0,0,1,1,1,1,1,1,1,0,0,0,1,1],[.code [1,0,1,1,1,1,1,1,1,0,0,0,1,1],.code [1,1,1,1,1,1,1,1,0,0,0,1,1],.aD 1],[(0,cH),(1,aB),(2,aB),(3,aB),(4,rX),(10,kP),(11,kP),(12,aB),(13,aB)],υ9 (o6 n)⟩, ⟨[0,1,1,1,1,1,1,1,1,0,0,0,1,1],[.code [1,1,1,1,1,1,1,1,1,0,0,0,1,1],.aD 1],[(0,cH),(1,aB),(2,aB),(3,aB),(4,rX),(10,kP),(11,kP),(12,aB),(13,aB)],υ9 (o7 n)⟩]
abbrev Gw (n:Nat):List jk:=[⟨22,[aB,aB],[aB],λx a=>mO n x a.1 a.2⟩]
def Kn (i:Nat):Option (List (Nat×η)):=Κ i 4 (Ω [0,1,2,3,4,5,6,7,9,10,11,12,8,13,14,15,16]) (Κ i 6 (Ω [0,1,2,3,4,5,6,7,8,10,11,12,9,13,14,15,16,17]) none)
abbrev NS (n:Nat):List (jd Unit):=[⟨[0,0,1,0,0,1,0,0,1,0,0,1],[.aD 3,.code [1,1,0,0,1,0,0,1,0,0,1]],[(0,cH),(1,aB),(2,aB),(3,rX),(8,aB),(9,aB)],υ6 (mi n)⟩]
def Ko (i:Nat):Option (List (Nat×η)):=Κ i 10 (Ω [0,1,2,3,4,5,6,7,8,9,10,12,13,14,11,15,16,17,18,19]) none
abbrev We (n:Nat):List (jd (Int×Int)):=[⟨[0,1,1,1,1,1,1,1],[.code [1,1,1,1,1,1,1,1]],[(11,aV),(13,aB)],υ2 (oz n)⟩]
abbrev An (n:Nat):List jk:=[⟨23,[aB,aB],[aB],λx a=>kW n x a.1 a.2⟩, ⟨72,[aB,aB],[aB],λx a=>kX n x a.1 a.2⟩, ⟨112,[aB,aB],[aB],λx a=>kJ n x a.1 a.2⟩]
def CX (i:Nat):Option (List (Nat×η)):=Κ i 5 (Ω [0,1,2,3,4,5,6,7,9,10,11,12,8,13,14,15,16,17]) (Κ i 11 (Ω [0,1,2,3,4,5,6,7,8,10,11,12,9,13,14,15,16,17]) (Κ i 16 (Ω [0,1,2,3,5,6,7,8,4,9,10,11,12]) (Κ i 17 (Ω [0,1,2,3,4,5,6,7,8,10,11,12,9,13,14,15,16,17]) (Κ i 22 (Ω [0,1,2,3,5,6,7,8,4,9,10,11,12]) (Κ i 23 (Ω [0,1,2,3,4,5,6,7,8,10,11,12,9,13,14,15,16,17]) none)))))
abbrev NT (n:Nat):List (jd (Unit⊕Bool)):=[⟨[0,1,1,1,1,1,0,0,1,0,0,1,0,1,1],[.code [1,1,1,1,1,1,0,0,1,0,0,1,0,1,1],.aD 1,.code [1,1,0,0,1,0,1,1]],[(0,cH),(1,aB),(2,aB),(3,rX),(9,aB),(10,aB)],υ6 (kA n)⟩]
abbrev CZ (n:Nat):List jk:=[⟨35,[aB,aB],[aB],λx a=>my n x a.1 a.2⟩, ⟨54,[aB,aB],[aB],λx a=>mz n x a.1 a.2⟩]
def Gx (i:Nat):Option (List (Nat×η)):=Κ i 1 (Ω [0,1,2,3,4,5,6,8,9,10,7,11,12,13,14,15]) (Κ i 3 (Ω [0,1,2,3,4,5,6,7,9,10,11,8,12,13,14,15,16]) (Κ i 5 (Ω [0,1,2,3,4,5,6,7,9,10,11,8,12,13,14,15]) (Κ i 8 (Ω [0,1,2,3,4,5,6,8,9,10,7,11,12,13,14,15]) none)))
abbrev yI (n:Nat):List jk:=[⟨36,[aB,aB],[aB],λx a=>oY n x a.1 a.2⟩, ⟨54,[aB,aB],[aB],λx a=>oZ n x a.1 a.2⟩, ⟨109,[aB,aB],[aB],λx a=>ox n x a.1 a.2⟩, ⟨127,[aB,aB],[aB],λx a=>oy n x a.1 a.2⟩]
def Ao (i:Nat):Option (List (Nat×η)):=Κ i 1 (Ω [0,1,2,3,4,5,6,8,9,10,7,11,12,13,14,15]) (Κ i 3 (Ω [0,1,2,3,4,5,6,7,9,10,11,8,12,13,14,15]) (Κ i 5 (Ω [0,1,2,3,4,5,6,7,9,10,11,8,12,13,14,15,16]) (Κ i 8 (Ω [0,1,2,3,4,5,6,8,9,10,7,11,12,13,14,15]) (Κ i 10 (Ω [0,1,2,3,4,5,6,8,9,10,7,11,12,13,14,15]) (Κ i 13 (Ω [0,1,2,3,4,5,6,7,9,10,11,8,12,13,14,15]) (Κ i 15 (Ω [0,1,2,3,4,5,6,7,9,10,11,8,12,13,14,15,16]) (Κ i 18 (Ω [0,1,2,3,4,5,6,8,9,10,7,11,12,13,14,15]) (Κ i 21 (Ω [0,1,2,3,4,5,6,8,9,10,7,11,12,13,14,15]) none))))))))
def LP (i:Nat):Option (List (Nat×η)):=Κ i 1 (Ω [0,1,2,3,5,7,8,9,10,12,4,6,14,11,13,15]) (Κ i 2 (Ω [0,1,2,4,5,6,3,7,8,9]) (Κ i 4 (Ω [0,1,2,4,5,6,3,7,8,9]) (Κ i 6 (Ω [0,1,2,4,5,6,3,7,8,9]) (Κ i 10 (Ω [0,1,2,4,5,6,8,9,10,3,7,11,12,13]) (Κ i 18 (Ω [0,1,2,3,5,6,7,11,12,13,14,16,17,18,4,8,9,10,15,19,20,21,22,23]) (Κ i 21 (Ω [0,1,2,3,5,6,7,11,12,13,14,16,17,18,22,4,8,9,10,15,19,20,21,23,24]) none))))))
abbrev Kq (n:Nat):List (jd (Unit⊕Int)):=[⟨[0,1,1,0,0,1,1,0,0,1,0,1,1,1,1,1],[.code [1,1,1,0,0,1,1,0,0,1,0,1,1,1,1,1],.aD 2,.code [1,1,1,0,0,1,0,1,1,1,1,1]],[(0,rW),(2,rW),(4,Xi),(11,rW),(12,rW),(14,cH),(15,cH),(16,aB),(93,aB),(94,aB)],υ10 (yH n)⟩]
abbrev Gy (n:Nat):List jk:=[⟨24,[aB,aB],[aB],λx a=>pJ n x a.1 a.2⟩, ⟨43,[aB,aB],[aB],λx a=>pK n x a.1 a.2⟩]
def LQ (i:Nat):Option (List (Nat×η)):=Κ i 3 (Ω [0,1,2,3,4,5,6,7,8,9,10,12,13,14,15,16,17,11,18,19,20,21]) (Κ i 5 (Ω [0,1,2,3,4,5,7,8,9,10,11,6,12,13,14,15]) (Κ i 6 (Ω [0,1,2,3,4,5,6,7,8,9,10,11,12,14,15,16,17,18,13,19,20,21,22,23]) none))
abbrev Kr (n:Nat):List (jd (Unit⊕Unit)):=[⟨[0,0,1,1,1,0,0,0,1],[.code [1,0,1,1,1,0,0,0,1],.code [1,1,1,1,0,0,0,1],.aD 1],[(0,cH),(2,aB),(3,aB),(4,rX),(10,aB),(11,aB)],υ6 (oA n)⟩]
abbrev Tx (n:Nat):List (jd Sl):=[⟨[0,1,0,1,1,1,1,1],[.code [1,1,1,1,1,1]],[(1,aB),(2,aV),(5,aV),(6,cH)],υ4 (vf n)⟩]
abbrev LR (n:Nat):List jk:=[⟨12,[aB,aB],[aB],λx a=>qC n x a.1 a.2⟩]
def Tz (i:Nat):Option (List (Nat×η)):=Κ i 1 (Ω [0,1,2,3,5,6,7,4,8,9,10]) none
def TA (i:Nat):Option (List (Nat×η)):=Κ i 1 (Ω [5,13,0,1,2,3,4,6,7,8,9,10,11,12,14,15,16,17]) none
def ai (n:Nat):Prop:=bz TZp (QH n)/\bz TZp (QI n)/\bz TZp (QJ n)/\bz TZp (QK n)/\bz TZp (QL n)/\bz TZp (QM n)/\bz TZp (QN n)/\bz TZp (QP n)/\bz TZp (QQ n)/\bz TZp (Kd n)/\bz TZp (Ke n)/\bz TZp (Kf n)/\bz TZp (Kg n)/\bz TZp (Kh n)/\bz TZp (Ki n)/\bz TZp (Kj n)
theorem gd (n:Nat)(H:ai n):bA TZp (uJ n):=.cons H.1 (.cons H.2.1 (.cons H.2.2.1 (.cons H.2.2.2.1 (.cons H.2.2.2.2.1 (.cons H.2.2.2.2.2.1 (.cons H.2.2.2.2.2.2.1 (.cons H.2.2.2.2.2.2.2.1 (.cons H.2.2.2.2.2.2.2.2.1 (.cons H.2.2.2.2.2.2.2.2.2.1 (.cons H.2.2.2.2.2.2.2.2.2.2.1 (.cons H.2.2.2.2.2.2.2.2.2.2.2.1 (.cons H.2.2.2.2.2.2.2.2.2.2.2.2.1 (.cons H.2.2.2.2.2.2.2.2.2.2.2.2.2.1 (.cons H.2.2.2.2.2.2.2.2.2.2.2.2.2.2.1 (.cons H.2.2.2.2.2.2.2.2.2.2.2.2.2.2.2 (K30 n))))))))))))))))
theorem o8 (n:Nat)(H:∀m,m<n+1->ai m):bz TZp (QH (n+1)):=cQ Tryz.f41 (uJ n) (hT:=.m1 (gd n (H n (aad n))))
theorem QS (n:Nat)(H:ai n):nP TZp (Kl n):=.cons (eb (l:=[⟨42,[aV,aV],λa c=>aG n a.1 a.2 c.1 c.2⟩,⟨170,[aV,aV],λa c=>aP n a.1 a.2 c.1 c.2⟩]) (.cons (λa c=>aI (by kernel_rfl) ((aF n) (a.1,a.2,c.1,c.2))) (.cons (λa c=>aI (by kernel_rfl) ((H).2.2.2.2.2.2.2.2.2.2.2.2.2.2.2 (a.1,a.2,c.1,c.2))) .nil)) (λx a=>by kernel_rfl)) .nil
theorem NU (n:Nat)(H:∀m,m<n->ai m):kE TZp Tryz.f64 (Gd.e n) Gd.ws:=Lr.ok Tryz.f64 Gd n uJ (dt:=Kl) (dr:=QR) (jt:=NR) (hT:=λm hm=>⟨.nil,gd m (H m hm),(QS m (H m hm)),.nil,(.cc (.cc (.cc (.cc .nil))))⟩)
theorem nS (n:Nat)(H:∀m,m<n+1->ai m):bz TZp (QI (n+1)):=cQ Tryz.f64 (uJ n) (dl:=Kl n) (ll:=[Gd.e n]) (dr:=QR) (hT:=⟨.nil,gd n (H n (aad n)),(QS n (H n (aad n))),(.cc (NU n (λk hk=>H k (aal hk))) .nil),.nil⟩)
theorem vP (n:Nat)(H:∀m,m<n+1->ai m):bz TZp (QJ (n+1)):=cQ Tryz.f80 (uJ n) (hT:=.m1 (gd n (H n (aad n))))
theorem Ks (n:Nat)(H:ai n):nP TZp (Gw n):=.cons (eb (l:=[⟨42,[aV,aV],λa c=>aG n a.1 a.2 c.1 c.2⟩,⟨170,[aV,aV],λa c=>aP n a.1 a.2 c.1 c.2⟩]) (.cons (λa c=>aI (by kernel_rfl) ((aF n) (a.1,a.2,c.1,c.2))) (.cons (λa c=>aI (by kernel_rfl) ((H).2.2.2.2.2.2.2.2.2.2.2.2.2.2.2 (a.1,a.2,c.1,c.2))) .nil)) (λx a=>by kernel_rfl)) .nil
theorem NV (n:Nat)(H:∀m,m<n->ai m):kE TZp Tryz.f85 (Gf.e n) Gf.ws:=L1.ok Tryz.f85 Gf n uJ (dt:=Gw) (dr:=Kn) (jt:=NS) (hT:=λm hm=>⟨.nil,gd m (H m hm),(Ks m (H m hm)),.nil,(.cc .nil)⟩)
theorem NX (n:Nat)(H:∀m,m<n->ai m):kE TZp Tryz.f85 (Ge.e n) Ge.ws:=L1.ok Tryz.f85 Ge n uJ (dt:=Gw) (lt:=λn=>[Gf.e n]) (dr:=Kn) (hT:=λm hm=>⟨.nil,gd m (H m hm),(Ks m (H m hm)),(.cc (NV m (λk hk=>H k (abk hk hm))) .nil),.nil⟩)
theorem lK (n:Nat)(H:∀m,m<n+1->ai m):bz TZp (QK (n+1)):=cQ Tryz.f85 (uJ n) (dl:=Gw n) (ll:=[Ge.e n]) (dr:=Kn) (hT:=⟨.nil,gd n (H n (aad n)),(Ks n (H n (aad n))),(.cc (NX n (λk hk=>H k (aal hk))) .nil),.nil⟩)
theorem NY (n:Nat)(H:∀m,m<n->ai m):kE TZp Tryz.f86 (Gg.e n) Gg.ws:=L1.ok Tryz.f86 Gg n uJ (dr:=Ko) (hT:=λm hm=>.m1 (gd m (H m hm)))
theorem NZ (n:Nat)(H:∀m,m<n->ai m):kE TZp Tryz.f86 (Gh.e n) Gh.ws:=L1.ok Tryz.f86 Gh n uJ (dr:=Ko) (hT:=λm hm=>.m1 (gd m (H m hm)))
theorem nz (n:Nat)(H:∀m,m<n+1->ai m):bz TZp (QL (n+1)):=cQ Tryz.f86 (uJ n) (ll:=[Gg.e n,Gh.e n]) (dr:=Ko) (hT:=⟨.nil,gd n (H n (aad n)),.nil,(.cc (NY n (λk hk=>H k (aal hk))) (.cc (NZ n (λk hk=>H k (aal hk))) .nil)),.nil⟩)
theorem mj (n:Nat)(H:∀m,m<n+1->ai m):bz TZp (QM (n+1)):=cQ Tryz.f88 (uJ n) (js:=We n) (hT:=⟨.nil,gd n (H n (aad n)),.nil,.nil,(.cc .nil)⟩)
theorem Da (n:Nat)(H:ai n):nP TZp (An n):=.cons (eb (l:=[⟨42,[aV,aV],λa c=>aG n a.1 a.2 c.1 c.2⟩,⟨170,[aV,aV],λa c=>aP n a.1 a.2 c.1 c.2⟩]) (.cons (λa c=>aI (by kernel_rfl) ((aF n) (a.1,a.2,c.1,c.2))) (.cons (λa c=>aI (by kernel_rfl) ((H).2.2.2.2.2.2.2.2.2.2.2.2.2.2.2 (a.1,a.2,c.1,c.2))) .nil)) (λx a=>by kernel_rfl)) (.cons (eb (l:=[⟨42,[aV,aV],λa c=>aG n a.1 a.2 c.1 c.2⟩,⟨170,[aV,aV],λa c=>aP n a.1 a.2 c.1 c.2⟩]) (.cons (λa c=>aI (by kernel_rfl) ((aF n) (a.1,a.2,c.1,c.2))) (.cons (λa c=>aI (by kernel_rfl) ((H).2.2.2.2.2.2.2.2.2.2.2.2.2.2.2 (a.1,a.2,c.1,c.2))) .nil)) (λx a=>by kernel_rfl)) (.cons (eb (l:=[⟨42,[aV,aV],λa c=>aG n a.1 a.2 c.1 c.2⟩,⟨170,[aV,aV],λa c=>aP n a.1 a.2 c.1 c.2⟩]) (.cons (λa c=>aI (by kernel_rfl) ((aF n) (a.1,a.2,c.1,c.2))) (.cons (λa c=>aI (by kernel_rfl) ((H).2.2.2.2.2.2.2.2.2.2.2.2.2.2.2 (a.1,a.2,c.1,c.2))) .nil)) (λx a=>by kernel_rfl)) .nil))
theorem N0 (n:Nat)(H:∀m,m<n->ai m):kE TZp Tryz.f90 (Gl.e n) Gl.ws:=L1.ok Tryz.f90 Gl n uJ (dt:=An) (dr:=CX) (hT:=λm hm=>⟨.nil,gd m (H m hm),(Da m (H m hm)),.nil,.nil⟩)
theorem N1 (n:Nat)(H:∀m,m<n->ai m):kE TZp Tryz.f90 (Gm.e n) Gm.ws:=L1.ok Tryz.f90 Gm n uJ (dt:=An) (dr:=CX) (hT:=λm hm=>⟨.nil,gd m (H m hm),(Da m (H m hm)),.nil,.nil⟩)
theorem N2 (n:Nat)(H:∀m,m<n->ai m):kE TZp Tryz.f90 (Gj.e n) Gj.ws:=L1.ok Tryz.f90 Gj n uJ (dt:=An) (dr:=CX) (hT:=λm hm=>⟨.nil,gd m (H m hm),(Da m (H m hm)),.nil,.nil⟩)
theorem N3 (n:Nat)(H:∀m,m<n->ai m):kE TZp Tryz.f90 (Gi.e n) Gi.ws:=L2.ok Tryz.f90 Gi n uJ (dt:=An) (lt:=λn=>[Gj.e n,Gl.e n,Gm.e n]) (dr:=CX) (jt:=NT) (hT:=λm hm=>⟨.nil,gd m (H m hm),(Da m (H m hm)),(.cc (N2 m (λk hk=>H k (abk hk hm))) (.cc (N0 m (λk hk=>H k (abk hk hm))) (.cc (N1 m (λk hk=>H k (abk hk hm))) .nil))),(.cc .nil)⟩)
theorem jS (n:Nat)(H:∀m,m<n+1->ai m):bz TZp (QN (n+1)):=cQ Tryz.f90 (uJ n) (dl:=An n) (ll:=[Gi.e n]) (dr:=CX) (hT:=⟨.nil,gd n (H n (aad n)),(Da n (H n (aad n))),(.cc (N3 n (λk hk=>H k (aal hk))) .nil),.nil⟩)
theorem Gz (n:Nat)(H:ai n):nP TZp (CZ n):=.cons (eb (l:=[⟨42,[aV,aV],λa c=>aG n a.1 a.2 c.1 c.2⟩,⟨170,[aV,aV],λa c=>aP n a.1 a.2 c.1 c.2⟩]) (.cons (λa c=>aI (by kernel_rfl) ((aF n) (a.1,a.2,c.1,c.2))) (.cons (λa c=>aI (by kernel_rfl) ((H).2.2.2.2.2.2.2.2.2.2.2.2.2.2.2 (a.1,a.2,c.1,c.2))) .nil)) (λx a=>by kernel_rfl)) (.cons (eb (l:=[⟨42,[aV,aV],λa c=>aG n a.1 a.2 c.1 c.2⟩,⟨170,[aV,aV],λa c=>aP n a.1 a.2 c.1 c.2⟩]) (.cons (λa c=>aI (by kernel_rfl) ((aF n) (a.1,a.2,c.1,c.2))) (.cons (λa c=>aI (by kernel_rfl) ((H).2.2.2.2.2.2.2.2.2.2.2.2.2.2.2 (a.1,a.2,c.1,c.2))) .nil)) (λx a=>by kernel_rfl)) .nil)
theorem N4 (n:Nat)(H:∀m,m<n->ai m):kE TZp Tryz.f91 (Gq.e n) Gq.ws:=L1.ok Tryz.f91 Gq n uJ (dt:=CZ) (dr:=Gx) (hT:=λm hm=>⟨.nil,gd m (H m hm),(Gz m (H m hm)),.nil,.nil⟩)
theorem N5 (n:Nat)(H:∀m,m<n->ai m):kE TZp Tryz.f91 (Gp.e n) Gp.ws:=L1.ok Tryz.f91 Gp n uJ (dt:=CZ) (dr:=Gx) (hT:=λm hm=>⟨.nil,gd m (H m hm),(Gz m (H m hm)),.nil,.nil⟩)
theorem N6 (n:Nat)(H:∀m,m<n->ai m):kE TZp Tryz.f91 (Gn.e n) Gn.ws:=L1.ok Tryz.f91 Gn n uJ (dt:=CZ) (lt:=λn=>[Gp.e n,Gq.e n]) (dr:=Gx) (hT:=λm hm=>⟨.nil,gd m (H m hm),(Gz m (H m hm)),(.cc (N5 m (λk hk=>H k (abk hk hm))) (.cc (N4 m (λk hk=>H k (abk hk hm))) .nil)),.nil⟩)
theorem lC (n:Nat)(H:∀m,m<n+1->ai m):bz TZp (QP (n+1)):=cQ Tryz.f91 (uJ n) (dl:=CZ n) (ll:=[Gn.e n]) (dr:=Gx) (hT:=⟨.nil,gd n (H n (aad n)),(Gz n (H n (aad n))),(.cc (N6 n (λk hk=>H k (aal hk))) .nil),.nil⟩)
theorem Ap (n:Nat)(H:ai n):nP TZp (yI n):=.cons (eb (l:=[⟨42,[aV,aV],λa c=>aG n a.1 a.2 c.1 c.2⟩,⟨170,[aV,aV],λa c=>aP n a.1 a.2 c.1 c.2⟩]) (.cons (λa c=>aI (by kernel_rfl) ((aF n) (a.1,a.2,c.1,c.2))) (.cons (λa c=>aI (by kernel_rfl) ((H).2.2.2.2.2.2.2.2.2.2.2.2.2.2.2 (a.1,a.2,c.1,c.2))) .nil)) (λx a=>by kernel_rfl)) (.cons (eb (l:=[⟨42,[aV,aV],λa c=>aG n a.1 a.2 c.1 c.2⟩,⟨170,[aV,aV],λa c=>aP n a.1 a.2 c.1 c.2⟩]) (.cons (λa c=>aI (by kernel_rfl) ((aF n) (a.1,a.2,c.1,c.2))) (.cons (λa c=>aI (by kernel_rfl) ((H).2.2.2.2.2.2.2.2.2.2.2.2.2.2.2 (a.1,a.2,c.1,c.2))) .nil)) (λx a=>by kernel_rfl)) (.cons (eb (l:=[⟨42,[aV,aV],λa c=>aG n a.1 a.2 c.1 c.2⟩,⟨170,[aV,aV],λa c=>aP n a.1 a.2 c.1 c.2⟩]) (.cons (λa c=>aI (by kernel_rfl) ((aF n) (a.1,a.2,c.1,c.2))) (.cons (λa c=>aI (by kernel_rfl) ((H).2.2.2.2.2.2.2.2.2.2.2.2.2.2.2 (a.1,a.2,c.1,c.2))) .nil)) (λx a=>by kernel_rfl)) (.cons (eb (l:=[⟨42,[aV,aV],λa c=>aG n a.1 a.2 c.1 c.2⟩,⟨170,[aV,aV],λa c=>aP n a.1 a.2 c.1 c.2⟩]) (.cons (λa c=>aI (by kernel_rfl) ((aF n) (a.1,a.2,c.1,c.2))) (.cons (λa c=>aI (by kernel_rfl) ((H).2.2.2.2.2.2.2.2.2.2.2.2.2.2.2 (a.1,a.2,c.1,c.2))) .nil)) (λx a=>by kernel_rfl)) .nil)))
theorem N7 (n:Nat)(H:∀m,m<n->ai m):kE TZp Tryz.f92 (Gv.e n) Gv.ws:=L1.ok Tryz.f92 Gv n uJ (dt:=yI) (dr:=Ao) (hT:=λm hm=>⟨.nil,gd m (H m hm),(Ap m (H m hm)),.nil,.nil⟩)
theorem N8 (n:Nat)(H:∀m,m<n->ai m):kE TZp Tryz.f92 (Gu.e n) Gu.ws:=L1.ok Tryz.f92 Gu n uJ (dt:=yI) (dr:=Ao) (hT:=λm hm=>⟨.nil,gd m (H m hm),(Ap m (H m hm)),.nil,.nil⟩)
theorem N9 (n:Nat)(H:∀m,m<n->ai m):kE TZp Tryz.f92 (Gt.e n) Gt.ws:=L1.ok Tryz.f92 Gt n uJ (dt:=yI) (lt:=λn=>[Gu.e n,Gv.e n]) (dr:=Ao) (hT:=λm hm=>⟨.nil,gd m (H m hm),(Ap m (H m hm)),(.cc (N8 m (λk hk=>H k (abk hk hm))) (.cc (N7 m (λk hk=>H k (abk hk hm))) .nil)),.nil⟩)
theorem Oa (n:Nat)(H:∀m,m<n->ai m):kE TZp Tryz.f92 (Gs.e n) Gs.ws:=L1.ok Tryz.f92 Gs n uJ (dt:=yI) (dr:=Ao) (hT:=λm hm=>⟨.nil,gd m (H m hm),(Ap m (H m hm)),.nil,.nil⟩)
theorem Ob (n:Nat)(H:∀m,m<n->ai m):kE TZp Tryz.f92 (Gr.e n) Gr.ws:=L1.ok Tryz.f92 Gr n uJ (dt:=yI) (dr:=Ao) (hT:=λm hm=>⟨.nil,gd m (H m hm),(Ap m (H m hm)),.nil,.nil⟩)
theorem mP (n:Nat)(H:∀m,m<n+1->ai m):bz TZp (QQ (n+1)):=cQ Tryz.f92 (uJ n) (dl:=yI n) (ll:=[Gr.e n,Gs.e n,Gt.e n]) (dr:=Ao) (hT:=⟨.nil,gd n (H n (aad n)),(Ap n (H n (aad n))),(.cc (Ob n (λk hk=>H k (aal hk))) (.cc (Oa n (λk hk=>H k (aal hk))) (.cc (N9 n (λk hk=>H k (aal hk))) .nil))),.nil⟩)
theorem Kt (n:Nat)(H:∀m,m<n->ai m):kE TZp Tryz.f110 (BQ.e n) BQ.ws:=L2.ok Tryz.f110 BQ n uJ (dr:=LP) (jt:=Kq) (hT:=λm hm=>⟨.nil,gd m (H m hm),.nil,.nil,(.cc .nil)⟩)
theorem wG (n:Nat)(H:∀m,m<n+1->ai m):bz TZp (Kd (n+1)):=cQ Tryz.f110 (uJ n) (ll:=[BQ.e n]) (dr:=LP) (hT:=⟨.nil,gd n (H n (aad n)),.nil,(.cc (Kt n (λk hk=>H k (aal hk))) .nil),.nil⟩)
theorem LS (n:Nat)(H:ai n):nP TZp (Gy n):=.cons (eb (l:=[⟨42,[aV,aV],λa c=>aG n a.1 a.2 c.1 c.2⟩,⟨170,[aV,aV],λa c=>aP n a.1 a.2 c.1 c.2⟩]) (.cons (λa c=>aI (by kernel_rfl) ((aF n) (a.1,a.2,c.1,c.2))) (.cons (λa c=>aI (by kernel_rfl) ((H).2.2.2.2.2.2.2.2.2.2.2.2.2.2.2 (a.1,a.2,c.1,c.2))) .nil)) (λx a=>by kernel_rfl)) (.cons (eb (l:=[⟨42,[aV,aV],λa c=>aG n a.1 a.2 c.1 c.2⟩,⟨170,[aV,aV],λa c=>aP n a.1 a.2 c.1 c.2⟩]) (.cons (λa c=>aI (by kernel_rfl) ((aF n) (a.1,a.2,c.1,c.2))) (.cons (λa c=>aI (by kernel_rfl) ((H).2.2.2.2.2.2.2.2.2.2.2.2.2.2.2 (a.1,a.2,c.1,c.2))) .nil)) (λx a=>by kernel_rfl)) .nil)
theorem Ku (n:Nat)(H:∀m,m<n->ai m):kE TZp Tryz.f111 (BR.e n) BR.ws:=L2.ok Tryz.f111 BR n uJ (dt:=Gy) (dr:=LQ) (jt:=Kr) (hT:=λm hm=>⟨.nil,gd m (H m hm),(LS m (H m hm)),.nil,(.cc .nil)⟩)
theorem nA (n:Nat)(H:∀m,m<n+1->ai m):bz TZp (Ke (n+1)):=cQ Tryz.f111 (uJ n) (dl:=Gy n) (ll:=[BR.e n]) (dr:=LQ) (hT:=⟨.nil,gd n (H n (aad n)),(LS n (H n (aad n))),(.cc (Ku n (λk hk=>H k (aal hk))) .nil),.nil⟩)
theorem lD (n:Nat)(H:∀m,m<n+1->ai m):bz TZp (Kf (n+1)):=cQ Tryz.f114 (uJ n) (hT:=.m1 (gd n (H n (aad n))))
theorem oB (n:Nat)(H:∀m,m<n+1->ai m):bz TZp (Kg (n+1)):=cQ Tryz.f115 (uJ n) (hT:=.m1 (gd n (H n (aad n))))
theorem Kv (n:Nat)(H:∀m,m<n->ai m):kE TZp Tryz.f142 (BS.e n) BS.ws:=L1.ok Tryz.f142 BS n uJ (hT:=λm hm=>.m1 (gd m (H m hm)))
theorem rj (n:Nat)(H:∀m,m<n+1->ai m):bz TZp (Kh (n+1)):=cQ Tryz.f142 (uJ n) (ll:=[BS.e n]) (js:=Tx n) (hT:=⟨.nil,gd n (H n (aad n)),.nil,(.cc (Kv n (λk hk=>H k (aal hk))) .nil),(.cc .nil)⟩)
theorem TB (n:Nat)(H:ai n):nP TZp (LR n):=.cons (eb (l:=[⟨42,[aV,aV],λa c=>aG n a.1 a.2 c.1 c.2⟩,⟨170,[aV,aV],λa c=>aP n a.1 a.2 c.1 c.2⟩]) (.cons (λa c=>aI (by kernel_rfl) ((aF n) (a.1,a.2,c.1,c.2))) (.cons (λa c=>aI (by kernel_rfl) ((H).2.2.2.2.2.2.2.2.2.2.2.2.2.2.2 (a.1,a.2,c.1,c.2))) .nil)) (λx a=>by kernel_rfl)) .nil
theorem oC (n:Nat)(H:∀m,m<n+1->ai m):bz TZp (Ki (n+1)):=cQ Tryz.f143 (uJ n) (dl:=LR n) (dr:=Tz) (hT:=⟨.nil,gd n (H n (aad n)),(TB n (H n (aad n))),.nil,.nil⟩)
theorem qk (n:Nat)(H:∀m,m<n+1->ai m):bz TZp (Kj (n+1)):=cQ Tryz.f170 (uJ n) (dr:=TA) (hT:=.m1 (gd n (H n (aad n))))
theorem ql:∀n m,m<n->ai m:=by
 intro n
 induction n with
 |zero=>intro m hm;exact absurd hm (abc m)
 |succ n ih=>
  intro m hm;cases m with
  |zero=>exact⟨eg (fn:=Tryz.f41) (by kernel_rfl) (by kernel_rfl) (by kernel_rfl) (λ_=>rfl),eg (fn:=Tryz.f64) (by kernel_rfl) (by kernel_rfl) (by kernel_rfl) (λ_=>rfl),eg (fn:=Tryz.f80) (by kernel_rfl) (by kernel_rfl) (by kernel_rfl) (λ_=>rfl),eg (fn:=Tryz.f85) (by kernel_rfl) (by kernel_rfl) (by kernel_rfl) (λ_=>rfl),eg (fn:=Tryz.f86) (by kernel_rfl) (by kernel_rfl) (by kernel_rfl) (λ_=>rfl),eg (fn:=Tryz.f88) (by kernel_rfl) (by kernel_rfl) (by kernel_rfl) (λ_=>rfl),eg (fn:=Tryz.f90) (by kernel_rfl) (by kernel_rfl) (by kernel_rfl) (λ_=>rfl),eg (fn:=Tryz.f91) (by kernel_rfl) (by kernel_rfl) (by kernel_rfl) (λ_=>rfl),eg (fn:=Tryz.f92) (by kernel_rfl) (by kernel_rfl) (by kernel_rfl) (λ_=>rfl),eg (fn:=Tryz.f110) (by kernel_rfl) (by kernel_rfl) (by kernel_rfl) (λ_=>rfl),eg (fn:=Tryz.f111) (by kernel_rfl) (by kernel_rfl) (by kernel_rfl) (λ_=>rfl),eg (fn:=Tryz.f114) (by kernel_rfl) (by kernel_rfl) (by kernel_rfl) (λ_=>rfl),eg (fn:=Tryz.f115) (by kernel_rfl) (by kernel_rfl) (by kernel_rfl) (λ_=>rfl),eg (fn:=Tryz.f142) (by kernel_rfl) (by kernel_rfl) (by kernel_rfl) (λ_=>rfl),eg (fn:=Tryz.f143) (by kernel_rfl) (by kernel_rfl) (by kernel_rfl) (λ_=>rfl),eg (fn:=Tryz.f170) (by kernel_rfl) (by kernel_rfl) (by kernel_rfl) (λ_=>rfl)⟩
  |succ k=>exact⟨o8 k λm hm=>ih m (by omega),nS k λm hm=>ih m (by omega),vP k λm hm=>ih m (by omega),lK k λm hm=>ih m (by omega),nz k λm hm=>ih m (by omega),mj k λm hm=>ih m (by omega),jS k λm hm=>ih m (by omega),lC k λm hm=>ih m (by omega),mP k λm hm=>ih m (by omega),wG k λm hm=>ih m (by omega),nA k λm hm=>ih m (by omega),lD k λm hm=>ih m (by omega),oB k λm hm=>ih m (by omega),rj k λm hm=>ih m (by omega),oC k λm hm=>ih m (by omega),qk k λm hm=>ih m (by omega)⟩
theorem K31 (n:Nat):bA TZp (uJ n):=gd n (ql (n+1) n (aad n))
def r8 (n:Nat)(a0:Sl×Int):M (θ):=AI (aJ none aj [aS a0.1,vi a0.2]) λx0=>AI (dT 8) λx1=>AI (bh [.sl,li] (aw x0)) λ(x2:Sl×Int)=>AI (ar .sl ((aw x0).plus 0)) λ(x3:Sl)=>AI (pT (some (x1+4)) cw [aZ] (↑x3.len:Int) (↑x3.len:Int)) λx4=>AI (aJ (some (x1+6)) xW [aS x2.1,vi x2.2,aS x4]) λx5=>AS (some (aw x5))
abbrev QT (n:Nat):cr:=⟨81,[.agg [.sl,.int .i64]],[rW],λx=>r8 n x⟩
def Wf (i:Nat):Option (List (Nat×η)):=Κ i 1 (Ω [1,0,2,3,4,5,6,7]) none
theorem IF (n:Nat):bz TZp (QT n):=cQ Tryz.f81 (uJ n) (dr:=Wf) (hT:=.m1 (K31 n))
abbrev YD (n:Nat):List cr:=QT n::uJ n
theorem K32 (n:Nat):bA TZp (YD n):=.cons (IF n) (K31 n)
end Go.Sh
