
import Derived.Test.YtmfkngdglbcngaaGreatDoorSh2
set_option linter.all false
set_option maxRecDepth 100000
set_option maxHeartbeats 0
namespace Go.Sh
open Go Go.Ago Go.Proofs Go.IntKind
def sG (n:Nat)(a0:Sl×Int):M Int:=sh (aM none aj [aH a0.1,vi a0.2]) λx0=>sh (aN [.sl,li] (an x0)) λ(x1:Sl×Int)=>sh (kG n (x1.1,x1.2)) λx2=>if !decide (x2=0) then AI 3 else sh (aN [.sl,li] (an x0)) λ(x3:Sl×Int)=>sh (vo n (x3.1,x3.2)) λx4=>if !x4.2 then AI 14 else AI 0
abbrev abw (n:Nat):bB:=⟨78,[.agg [.sl,.int .i64]],[aC],λx=>sG n x⟩
theorem CJ (n:Nat):aP TZp (abw n):=bG Tryz.f78 (C85 n) (hT:=.m1 (K85 n))
abbrev C86 (n:Nat):List bB:=abw n::C85 n
theorem K86 (n:Nat):aI TZp (C86 n):=.cons (CJ n) (K85 n)
def gQ (n:Nat)(a0:θ):M ζ:=sh (nn a0) λx0=>sh (nn a0) λx1=>sh (ar .sl (x0.plus 1)) λ(x2:Sl)=>sh (Dh x2.a x2.len) λx3=>sh (ar .sl (x1.plus 1)) λ(x4:Sl)=>sh (X7 gU x3 (↑x4.len:Int)) λx5=>AI x5
abbrev abx (n:Nat):bB:=⟨81,[uo],[oS],λx=>gQ n x⟩
def ac1 (i:Nat):Option (List (Nat×η)):=Κ i 1 (Ω [0,1,2,5,6,7,3,4,8,9,10,11]) none
theorem va (n:Nat):aP TZp (abx n):=bG Tryz.f81 (C86 n) (dr:=ac1) (hT:=.m1 (K86 n))
abbrev C87 (n:Nat):List bB:=abx n::C86 n
theorem K87 (n:Nat):aI TZp (C87 n):=.cons (va n) (K86 n)
def fu (n:Nat)(a0:θ):M Unit:=sh (nn a0) λx0=>sh (ar .ptr (x0.plus 0)) λ(x1:θ)=>if Option.isNone x1 then sh (nn a0) λx2=>sh (inB x2) λx3=>sh (qo n (some x3)) λx4=>sh (nn x4) λx5=>sh (atB fF 2 x5) λx6=>sh (nn a0) λx7=>sh (bF (x7.plus 0) [.pointer (some x6)]) λx8=>AI () else sh (nn a0) λx2=>sh (ar .ptr (x2.plus 0)) λ(x3:θ)=>sh (XW x3 a0) λx4=>if !x4 then AS else AI ()
abbrev VU (n:Nat):bB:=⟨147,[uo],[],λx=>fu n x⟩
theorem tD (n:Nat):aP TZp (VU n):=bG Tryz.f147 (C87 n) (hT:=.m1 (K87 n))
abbrev C88 (n:Nat):List bB:=VU n::C87 n
theorem K88 (n:Nat):aI TZp (C88 n):=.cons (tD n) (K87 n)
def aF (n:Nat)(a0:θ)(a1:Int):M ξ:=sh (fu n a0) λx0=>sh (nn a0) λx1=>sh (ar .sl (x1.plus 1)) λ(x2:Sl)=>sh (app false x2 1 gU 1 [.int IntKind.u8 a1]) λx3=>sh (nn a0) λx4=>sh (bF (x4.plus 1) [aH x3]) λx5=>AI Value.nilIface
abbrev VV (n:Nat):bB:=⟨111,[uo,.one (.int .u8)],[sQ],υ2 (aF n)⟩
theorem tE (n:Nat):aP TZp (VV n):=bG Tryz.f111 (C88 n) (hT:=.m1 (K88 n))
abbrev C89 (n:Nat):List bB:=VV n::C88 n
theorem K89 (n:Nat):aI TZp (C89 n):=.cons (tE n) (K88 n)
def qS (G:ζ->Addr->Int->Int->M Unit)(n:Nat)(a0:ζ)(a1:Addr)(a2 a3:Int):M Unit:=if decide (a3<a2) then sh (jx a0 a3) λx0=>if decide ((↑x0.toNat:Int)=34) then sh (aF n (some a1) 92) λx1=>sh (jx a0 a3) λx2=>sh (aF n (some a1) (↑x2.toNat:Int)) λx3=>G a0 a1 a2 (i64.wrap (a3+1)) else sh (jx a0 a3) λx1=>if decide ((↑x1.toNat:Int)=92) then sh (aF n (some a1) 92) λx2=>sh (jx a0 a3) λx3=>sh (aF n (some a1) (↑x3.toNat:Int)) λx4=>G a0 a1 a2 (i64.wrap (a3+1)) else sh (jx a0 a3) λx2=>sh (aF n (some a1) (↑x2.toNat:Int)) λx3=>G a0 a1 a2 (i64.wrap (a3+1)) else AI ()
def iW:Nat->ζ->Addr->Int->Int->M Unit|0=>λ_ _ _ _=>AS|n+1=>qS (iW n) n
theorem yX (n:Nat):iW (n+1)=qS (iW n) n:=rfl
def ue (n:Nat)(a0:ζ):M ζ:=sh (aM none fF [.pointer none,aT]) λx0=>sh (aF n (some (an x0)) 34) λx1=>sh (iW n a0 (an x0) (↑a0.size:Int) 0) λx2=>sh (aF n (some (an x0)) 34) λx3=>sh (gQ n (some (an x0))) λx4=>AI x4
abbrev VW (n:Nat):bB:=⟨146,[oS],[oS],λx=>ue n x⟩
abbrev EL:L1:=⟨[0,1,0,1,1,1],[(0,oS),(3,aJ),(7,aC),(8,aC)],[],[4]++List.range' 8 19,0,λn=>υ4 (iW n)⟩
theorem OY (n:Nat):kZ TZp Tryz.f146 (EL.e n) EL.ws:=L1.ok Tryz.f146 EL n C89 (hT:=λm _=>.m1 (K89 m))
theorem D7 (n:Nat):aP TZp (VW n):=bG Tryz.f146 (C89 n) (ll:=[EL.e n]) (hT:=⟨.nil,K89 n,.nil,(.cc (OY n) .nil),.nil⟩)
abbrev C90 (n:Nat):List bB:=VW n::C89 n
theorem K90 (n:Nat):aI TZp (C90 n):=.cons (D7 n) (K89 n)
def tF (G:θ->Sl->Int->Int->M Sl)(n:Nat)(a0:θ)(a1:Sl)(a2 a3:Int):M Sl:=if decide (a3<a2) then sh (nn a0) λx0=>sh (nn a0) λx1=>sh (ar .str (x0.plus 1)) λ(x2:ζ)=>sh (jx x2 a3) λx3=>sh (oq (decide (0<=4))) λx4=>sh (jx (ofBytes [48,49,50,51,52,53,54,55,56,57,97,98,99,100,101,102]) ((↑x3.toNat:Int).fdiv (2^4))) λx5=>sh (ar .str (x1.plus 1)) λ(x6:ζ)=>sh (jx x6 a3) λx7=>sh (jx (ofBytes [48,49,50,51,52,53,54,55,56,57,97,98,99,100,101,102]) (IntKind.u8.wrap (↑(BitVec.ofInt 8 (↑x7.toNat:Int)&&&BitVec.ofInt 8 15).toNat:Int))) λx8=>sh (app true a1 1 gU 2 [.int IntKind.u8 (↑x5.toNat:Int),.int IntKind.u8 (↑x8.toNat:Int)]) λx9=>G a0 x9 a2 (i64.wrap (a3+1)) else AI a1
def nr:Nat->θ->Sl->Int->Int->M Sl|0=>λ_ _ _ _=>AS|n+1=>tF (nr n) n
theorem AW (n:Nat):nr (n+1)=tF (nr n) n:=rfl
def uS (n:Nat)(a0:θ):M ζ:=sh (nn a0) λx0=>sh (ar li (x0.plus 0)) λ(x1:Int)=>if decide (x1=0) then AI (ofBytes [110,117,108,108]) else if decide (x1=5) then sh (nn a0) λx2=>sh (ar .str (x2.plus 1)) λ(x3:ζ)=>sh (ue n x3) λx4=>AI x4 else if decide (x1=6) then sh (aM none gU [.int IntKind.u8 35]) λx2=>sh (nn a0) λx3=>sh (ar .str (x3.plus 1)) λ(x4:ζ)=>sh (nr n a0 { a:=some (an x2),len:=1,cap:=2 } (↑(ByteArray.size x4):Int) 0) λx5=>sh (strOf x5) λx6=>AI x6 else if decide (x1=7) then sh (nn a0) λx2=>sh (ar .str (x2.plus 1)) λ(x3:ζ)=>sh (kA (ofBytes [64]) x3) λx4=>AI x4 else if decide (x1=8) then sh (nn a0) λx2=>sh (ar .str (x2.plus 1)) λ(x3:ζ)=>sh (kA (ofBytes [37]) x3) λx4=>AI x4 else sh (nn a0) λx2=>sh (ar .str (x2.plus 1)) λ(x3:ζ)=>AI x3
abbrev VX (n:Nat):bB:=⟨109,[uo],[oS],λx=>uS n x⟩
abbrev EM:L1:=⟨[0,1,0,1,0,1,1,1,1,1,0,1,0,1],[(0,uo),(3,cN),(25,aC),(26,aC)],[(3,cN)],[3,4]++List.range' 26 23,1,λn=>υ4 (nr n)⟩
def Qv (i:Nat):Option (List (Nat×η)):=Κ i 11 (Ω [0,1,2,3,5,9,10,11,13,4,6,7,8,12,14,15,16,17,18,19]) none
theorem OZ (n:Nat):kZ TZp Tryz.f109 (EM.e n) EM.ws:=L1.ok Tryz.f109 EM n C90 (dr:=Qv) (hT:=λm _=>.m1 (K90 m))
theorem Hi (n:Nat):aP TZp (VX n):=bG Tryz.f109 (C90 n) (ll:=[EM.e n]) (dr:=Qv) (hT:=⟨.nil,K90 n,.nil,(.cc (OZ n) .nil),.nil⟩)
abbrev C91 (n:Nat):List bB:=VX n::C90 n
theorem K91 (n:Nat):aI TZp (C91 n):=.cons (Hi n) (K90 n)
structure bj where
 eB:θ->Int->Sl->θ->Int->Sl->Int->Int->M Int
 eU:θ->Int->Sl->M Int
def lY (G:bj)(n:Nat)(a0:θ)(a1:Int)(a2:Sl)(a3:θ)(a4:Int)(a5:Sl)(a6 a7:Int):M Int:=if decide (a7<a6) then sh (aw a5 a7 1) λx0=>sh (ar li x0) λ(x1:Int)=>sh (nn a3) λx2=>sh (ar li (x2.plus 0)) λ(x3:Int)=>if decide (x3=10) then sh (nn a3) λx4=>sh (ar .sl (x4.plus 3)) λ(x5:Sl)=>sh (aw x5 a7 1) λx6=>sh (ar li x6) λ(x7:Int)=>sh (G.eU a0 x7 a2) λx8=>sh (G.eU a0 x1 a2) λx9=>G.eB a0 a1 a2 a3 (i64.wrap (i64.wrap (a4+i64.wrap (1+x8))+x9)) a5 a6 (i64.wrap (a7+1)) else sh (G.eU a0 x1 a2) λx4=>G.eB a0 a1 a2 a3 (i64.wrap (a4+x4)) a5 a6 (i64.wrap (a7+1)) else AI a4
def dK (G:bj)(n:Nat)(a0:θ)(a1:Int)(a2:Sl)(a3:θ)(a4:Int):M Int:=sh (nn a3) λx0=>sh (ar .sl (x0.plus 4)) λ(x1:Sl)=>sh (G.eB a0 a1 a2 a3 a4 x1 (↑x1.len:Int) 0) λx2=>sh (aw a2 a1 1) λx3=>sh (bF x3 [vi (if 65537<x2 then 65537 else x2)]) λx4=>sh (aw a2 a1 1) λx5=>sh (ar li x5) λ(x6:Int)=>AI x6
def lZ (G:bj)(n:Nat)(a0:θ)(a1:Int)(a2:Sl)(a3:θ)(a4:Int):M Int:=if decide (a4=11) then sh (nn a3) λx0=>sh (ar .str (x0.plus 1)) λ(x1:ζ)=>dK G n a0 a1 a2 a3 (i64.wrap (3+(↑(ByteArray.size x1):Int))) else sh (uS n a3) λx0=>dK G n a0 a1 a2 a3 (↑(ByteArray.size x0):Int)
def oi (G:bj)(n:Nat)(a0:θ)(a1:Int)(a2:Sl):M Int:=sh (aw a2 a1 1) λx0=>sh (ar li x0) λ(x1:Int)=>if decide (0<=x1) then sh (aw a2 a1 1) λx2=>sh (ar li x2) λ(x3:Int)=>AI x3 else sh (nn a0) λx2=>sh (ar .sl ((x2.plus 0).plus 0)) λ(x3:Sl)=>sh (aw x3 a1 5) λx4=>sh (nn (some x4)) λx5=>sh (ar li (x5.plus 0)) λ(x6:Int)=>if decide (x6=9) then sh (nn (some x4)) λx7=>sh (ar .sl (x7.plus 4)) λ(x8:Sl)=>dK G n a0 a1 a2 (some x4) (i64.wrap (2+if 0<i64.wrap ((↑x8.len:Int)-1) then i64.wrap ((↑x8.len:Int)-1) else 0)) else if decide (x6=10) then sh (nn (some x4)) λx7=>sh (ar .sl (x7.plus 4)) λ(x8:Sl)=>dK G n a0 a1 a2 (some x4) (i64.wrap (2+if 0<i64.wrap ((↑x8.len:Int)-1) then i64.wrap ((↑x8.len:Int)-1) else 0)) else lZ G n a0 a1 a2 (some x4) x6
def bj.at:Nat->bj|0=>⟨λ_ _ _ _ _ _ _ _=>AS,λ_ _ _=>AS⟩|n+1=>⟨lY (bj.at n) n,oi (bj.at n) n⟩
def eB (n:Nat):=(bj.at n).eB
def eU (n:Nat):=(bj.at n).eU
def xY (n:Nat):=lZ (bj.at n) n
def xZ (n:Nat):=dK (bj.at n) n
abbrev VY (n:Nat):bB:=⟨79,[uo,aC,cN],[aC],υ3 (eU n)⟩
abbrev JV:L1:=⟨[0,1,0,1,1,1,1,1],[(0,uo),(1,aC),(2,cN),(7,uo),(8,aC),(56,cN),(57,aC),(58,aC)],[(8,aC)],[8,9,10]++List.range' 58 30,1,λn=>υ8 (eB n)⟩
abbrev C92 (n:Nat):List bB:=VY n::C91 n
abbrev ac2 (n:Nat):List (gC Int):=[⟨[0,1,1,0,1,0,1,1,1,1],[.code [1,1,1,0,1,0,1,1,1,1],.au 0,.code [1,1,1,1,1]],[(0,uo),(1,aC),(2,cN),(7,uo),(30,aC)],υ5 (xY n)⟩, ⟨[0,0,1,1,1,1,1],[.code [1,0,1,1,1,1,1],.code [1,1,1,1,1,1]],[(0,uo),(1,aC),(2,cN),(7,uo),(8,aC)],υ5 (xZ n)⟩]
def kK (n:Nat):Prop:=aP TZp (VY n)
theorem VZ (n:Nat)(H:kK n):aI TZp (C92 n):=.cons H (K91 n)
theorem SZ (n:Nat)(H:∀m,m<n->kK m):kZ TZp Tryz.f79 (JV.e n) JV.ws:=L1.ok Tryz.f79 JV n C92 (hT:=λm hm=>.m1 (VZ m (H m hm)))
theorem uT (n:Nat)(H:∀m,m<n+1->kK m):aP TZp (VY (n+1)):=bG Tryz.f79 (C92 n) (ll:=[JV.e n]) (js:=ac2 n) (hT:=⟨.nil,VZ n (H n (aam n)),.nil,(.cc (SZ n (λk hk=>H k (ab8 hk))) .nil),(.cc (.cc .nil))⟩)
theorem vN:∀n m,m<n->kK m:=by
 intro n
 induction n with
 |zero=>intro m hm;exact absurd hm (agI m)
 |succ n ih=>
  intro m hm;cases m with
  |zero=>exact gu (fn:=Tryz.f79) (by kernel_rfl) (by kernel_rfl) (by kernel_rfl) (λ_=>rfl)
  |succ k=>exact uT k λm hm=>ih m (by omega)
theorem K92 (n:Nat):aI TZp (C92 n):=VZ n (vN (n+1) n (aam n))
def eG (n:Nat)(a0:θ)(a1:ζ):M (Int×ξ):=sh (fu n a0) λx0=>sh (nn a0) λx1=>sh (ar .sl (x1.plus 1)) λ(x2:Sl)=>sh (app false x2 1 gU a1.size (bQ a1)) λx3=>sh (nn a0) λx4=>sh (bF (x4.plus 1) [aH x3]) λx5=>AI ((↑a1.size:Int),Value.nilIface)
abbrev V0 (n:Nat):bB:=⟨110,[uo,oS],[aC,sQ],υ2 (eG n)⟩
theorem sd (n:Nat):aP TZp (V0 n):=bG Tryz.f110 (C92 n) (hT:=.m1 (K92 n))
abbrev C93 (n:Nat):List bB:=V0 n::C92 n
theorem K93 (n:Nat):aI TZp (C93 n):=.cons (sd n) (K92 n)
structure aX where
 eV:θ->θ->θ->ζ->Sl->Int->Int->M Unit
 fI:θ->θ->Int->M Unit
def fA (G:aX)(n:Nat)(a0 a1 a2:θ)(a3:ζ)(a4:Int)(a5:Sl)(a6 a7:Int):M Unit:=sh (nn a2) λx0=>sh (ar .sl (x0.plus 4)) λ(x1:Sl)=>sh (aw x1 a4 1) λx2=>sh (ar li x2) λ(x3:Int)=>sh (G.fI a0 a1 x3) λx4=>G.eV a0 a1 a2 a3 a5 a6 (i64.wrap (a7+1))
def fB (G:aX)(n:Nat)(a0 a1 a2:θ)(a3:ζ)(a4:Int)(a5:Sl)(a6 a7:Int):M Unit:=sh (nn a2) λx0=>sh (ar li (x0.plus 0)) λ(x1:Int)=>if decide (x1=10) then sh (nn a2) λx2=>sh (ar .sl (x2.plus 3)) λ(x3:Sl)=>sh (aw x3 a4 1) λx4=>sh (ar li x4) λ(x5:Int)=>sh (G.fI a0 a1 x5) λx6=>sh (aF n a1 61) λx7=>fA G n a0 a1 a2 a3 a4 a5 a6 a7 else fA G n a0 a1 a2 a3 a4 a5 a6 a7
def mK (G:aX)(n:Nat)(a0 a1 a2:θ)(a3:ζ)(a4:Sl)(a5 a6:Int):M Unit:=if decide (a6<a5) then sh (aw a4 a6 1) λx0=>sh (ar li x0) λ(x1:Int)=>if decide (0<a6) then sh (aF n a1 44) λx2=>fB G n a0 a1 a2 a3 x1 a4 a5 a6 else fB G n a0 a1 a2 a3 x1 a4 a5 a6 else AI ()
def fk (G:aX)(n:Nat)(a0 a1:θ)(a2:Int)(a3:θ)(a4:ζ):M Unit:=sh (jx a4 0) λx0=>sh (aF n a1 (↑x0.toNat:Int)) λx1=>sh (dZ n a0 a2) λx2=>sh (G.eV a0 a1 a3 a4 x2 (↑x2.len:Int) 0) λx3=>sh (jx a4 1) λx4=>sh (aF n a1 (↑x4.toNat:Int)) λx5=>AI ()
def o0 (G:aX)(n:Nat)(a0 a1:θ)(a2:Int):M Unit:=sh (nn a0) λx0=>sh (ar .sl ((x0.plus 0).plus 0)) λ(x1:Sl)=>sh (aw x1 a2 5) λx2=>sh (nn (some x2)) λx3=>sh (ar li (x3.plus 0)) λ(x4:Int)=>if decide (x4=11) then sh (nn (some x2)) λx5=>sh (ar .str (x5.plus 1)) λ(x6:ζ)=>sh (kA (ofBytes [33]) x6) λx7=>sh (kA x7 (ofBytes [40])) λx8=>sh (eG n a1 x8) λx9=>sh (nn (some x2)) λx10=>sh (ar .sl (x10.plus 4)) λ(x11:Sl)=>sh (aw x11 0 1) λx12=>sh (ar li x12) λ(x13:Int)=>sh (G.fI a0 a1 x13) λiY=>sh (aF n a1 41) λx15=>AI () else sh (nn (some x2)) λx5=>sh (ar li (x5.plus 0)) λ(x6:Int)=>if decide (x6<9) then sh (uS n (some x2)) λx7=>sh (eG n a1 x7) λx8=>AI () else sh (nn (some x2)) λx7=>sh (ar li (x7.plus 0)) λ(x8:Int)=>if decide (x8=10) then sh (nn (some x2)) λx9=>sh (ar .bool (x9.plus 2)) λ(x10:Bool)=>if x10 then fk G n a0 a1 a2 (some x2) (ofBytes [60,62]) else fk G n a0 a1 a2 (some x2) (ofBytes [123,125]) else fk G n a0 a1 a2 (some x2) (ofBytes [91,93])
def aX.at:Nat->aX|0=>⟨λ_ _ _ _ _ _ _=>AS,λ_ _ _=>AS⟩|n+1=>⟨mK (aX.at n) n,o0 (aX.at n) n⟩
def eV (n:Nat):=(aX.at n).eV
def fI (n:Nat):=(aX.at n).fI
def wq (n:Nat):=fB (aX.at n) n
def wu (n:Nat):=fA (aX.at n) n
def yY (n:Nat):=fk (aX.at n) n
abbrev V1 (n:Nat):bB:=⟨80,[uo,uo,aC],[],υ3 (fI n)⟩
abbrev JW:L1:=⟨[0,1,0,1,1,1,1,1],[(0,uo),(1,uo),(6,uo),(7,oS),(67,cN),(68,aC),(69,aC)],[],[8,9]++List.range' 69 37,1,λn=>υ7 (eV n)⟩
abbrev C94 (n:Nat):List bB:=V1 n::C93 n
abbrev S0 (n:Nat):List (gC Unit):=[⟨[0,0,1,1,0,0,1,1,0,0,1,0,1,1,1,1,1],[.code [1,0,1,1,0,0,1,1,0,0,1,0,1,1,1,1,1],.code [1,1,1,0,0,1,1,0,0,1,0,1,1,1,1,1],.au 2,.code [1,1,1,0,0,1,0,1,1,1,1,1]],[(0,uo),(1,uo),(6,uo),(7,oS),(9,aC),(67,cN),(68,aC),(69,aC)],υ8 (wq n)⟩, ⟨[1,1,1,0,0,1,1,0,0,1,0,1,1,1,1,1],[.au 2,.code [1,1,1,0,0,1,0,1,1,1,1,1]],[(0,uo),(1,uo),(6,uo),(7,oS),(9,aC),(67,cN),(68,aC),(69,aC)],υ8 (wu n)⟩]
abbrev ac4 (n:Nat):List (gC Unit):=[⟨[0,1,1,1,1],[.code [1,1,1,1,1]],[(0,uo),(1,uo),(2,aC),(6,uo),(7,oS)],υ5 (yY n)⟩]
def lr (n:Nat):Prop:=aP TZp (V1 n)
theorem V2 (n:Nat)(H:lr n):aI TZp (C94 n):=.cons H (K93 n)
theorem S5 (n:Nat)(H:∀m,m<n->lr m):kZ TZp Tryz.f80 (JW.e n) JW.ws:=L1.ok Tryz.f80 JW n C94 (jt:=S0) (hT:=λm hm=>⟨.nil,V2 m (H m hm),.nil,.nil,(.cc (.cc .nil))⟩)
theorem vc (n:Nat)(H:∀m,m<n+1->lr m):aP TZp (V1 (n+1)):=bG Tryz.f80 (C94 n) (ll:=[JW.e n]) (js:=ac4 n) (hT:=⟨.nil,V2 n (H n (aam n)),.nil,(.cc (S5 n (λk hk=>H k (ab8 hk))) .nil),(.cc .nil)⟩)
theorem wv:∀n m,m<n->lr m:=by
 intro n
 induction n with
 |zero=>intro m hm;exact absurd hm (agI m)
 |succ n ih=>
  intro m hm;cases m with
  |zero=>exact gu (fn:=Tryz.f80) (by kernel_rfl) (by kernel_rfl) (by kernel_rfl) (λ_=>rfl)
  |succ k=>exact vc k λm hm=>ih m (by omega)
theorem K94 (n:Nat):aI TZp (C94 n):=V2 n (wv (n+1) n (aam n))
def uU (G:Addr->θ->Sl->Int->Int->M Unit)(n:Nat)(a0:Addr)(a1:θ)(a2:Sl)(a3 a4:Int):M Unit:=if decide (a4<a3) then sh (aw a2 a4 1) λx0=>sh (bF x0 [vi (-1)]) λx1=>G a0 a1 a2 a3 (i64.wrap (a4+1)) else AI ()
def oO:Nat->Addr->θ->Sl->Int->Int->M Unit|0=>λ_ _ _ _ _=>AS|n+1=>uU (oO n) n
theorem BF (n:Nat):oO (n+1)=uU (oO n) n:=rfl
def wx (n:Nat)(a0:Sl×Int):M (ζ×Int):=sh (aM none aj [aH a0.1,vi a0.2]) λx0=>sh (aN [.sl,li] (an x0)) λ(x1:Sl×Int)=>sh (sG n (x1.1,x1.2)) λx2=>if !decide (x2=0) then AI ((ofBytes []),x2) else sh (aN [.sl,li] (an x0)) λ(x3:Sl×Int)=>sh (yR n (x3.1,x3.2)) λx4=>sh (ar .sl ((an x0).plus 0)) λ(x5:Sl)=>sh (vS none av [vi 0] (↑x5.len:Int) (↑x5.len:Int)) λx6=>sh (oO n (an x0) x4 x6 (↑x6.len:Int) 0) λx7=>sh (ar li ((an x0).plus 1)) λ(x8:Int)=>sh (eU n x4 x8 x6) λx9=>if decide (65536<x9) then AI ((ofBytes []),6) else sh (aM none fF [.pointer none,aT]) λx10=>sh (ar li ((an x0).plus 1)) λ(x11:Int)=>sh (fI n x4 (some (an x10)) x11) λx12=>sh (gQ n (some (an x10))) λx13=>AI (x13,0)
abbrev aby (n:Nat):bB:=⟨50,[.agg [.sl,.int .i64]],[oS,aC],λx=>wx n x⟩
abbrev JX:L1:=⟨[0,1,0,1,1,1,1],[(1,aJ),(5,uo),(6,cN),(21,aC),(22,aC)],[],[7]++List.range' 22 7,0,λn=>υ5 (oO n)⟩
theorem S6 (n:Nat):kZ TZp Tryz.f50 (JX.e n) JX.ws:=L1.ok Tryz.f50 JX n C94 (hT:=λm _=>.m1 (K94 m))
theorem JY (n:Nat):aP TZp (aby n):=bG Tryz.f50 (C94 n) (ll:=[JX.e n]) (hT:=⟨.nil,K94 n,.nil,(.cc (S6 n) .nil),.nil⟩)
abbrev C95 (n:Nat):List bB:=aby n::C94 n
theorem K95 (n:Nat):aI TZp (C95 n):=.cons (JY n) (K94 n)
def tG (G:Addr->Sl->Sl->Int->Int->M Sl)(n:Nat)(a0:Addr)(a1 a2:Sl)(a3 a4:Int):M Sl:=if decide (a4<a3) then sh (aw a2 a4 1) λx0=>sh (ar li x0) λ(x1:Int)=>sh (aN [.sl,li] a0) λ(x2:Sl×Int)=>sh (r9 n (x2.1,x2.2) x1) λx3=>sh (aM none aj [aT,vi 0]) λx4=>sh (bF (an x4) [aH x3.1.1,vi x3.1.2]) λx5=>sh (aN [.sl,li] (an x4)) λ(x6:Sl×Int)=>sh (wx n (x6.1,x6.2)) λx7=>sh (app false a1 1 dV 1 [.string x7.1]) λx8=>G a0 x8 a2 a3 (i64.wrap (a4+1)) else AI a1
def nz:Nat->Addr->Sl->Sl->Int->Int->M Sl|0=>λ_ _ _ _ _=>AS|n+1=>tG (nz n) n
theorem AX (n:Nat):nz (n+1)=tG (nz n) n:=rfl
def uV (n:Nat)(a0:Sl×Int)(a1:Int×ζ×Bool×Sl×Sl):M Sl:=sh (aM none aj [aH a0.1,vi a0.2]) λx0=>sh (aM none az [vi a1.1,.string a1.2.1,.bool a1.2.2.1,aH a1.2.2.2.1,aH a1.2.2.2.2]) λx1=>sh (ar .sl ((an x1).plus 3)) λ(x2:Sl)=>sh (nz n (an x0) nP x2 (↑x2.len:Int) 0) λx3=>AI x3
abbrev abz (n:Nat):bB:=⟨36,[.agg [.sl,.int .i64],.agg [.int .i64,.str,.bool,.sl,.sl]],[cN],υ2 (uV n)⟩
abbrev JZ:L1:=⟨[0,1,0,1,1],[(2,aJ),(5,cN),(13,cN),(14,aC),(15,aC)],[(5,cN)],[5]++List.range' 7 5++List.range' 15 20,0,λn=>υ5 (nz n)⟩
theorem S7 (n:Nat):kZ TZp Tryz.f36 (JZ.e n) JZ.ws:=L1.ok Tryz.f36 JZ n C95 (hT:=λm _=>.m1 (K95 m))
theorem Hj (n:Nat):aP TZp (abz n):=bG Tryz.f36 (C95 n) (ll:=[JZ.e n]) (hT:=⟨.nil,K95 n,.nil,(.cc (S7 n) .nil),.nil⟩)
abbrev C96 (n:Nat):List bB:=abz n::C95 n
theorem K96 (n:Nat):aI TZp (C96 n):=.cons (Hj n) (K95 n)
def se (G:Sl->Sl->Int->Int->M (Unit⊕(Sl×Bool)))(n:Nat)(a0 a1:Sl)(a2 a3:Int):M (Unit⊕(Sl×Bool)):=if decide (a3<a2) then sh (aw a0 a3 1) λx0=>sh (aw a1 a3 1) λx1=>sh (ar .str x0) λ(x2:ζ)=>sh (ar .str x1) λ(x3:ζ)=>if !mX x2 x3 then AI (Sum.inr (nP,false)) else G a0 a1 a2 (i64.wrap (a3+1)) else AI (Sum.inl ())
def ma:Nat->Sl->Sl->Int->Int->M (Unit⊕(Sl×Bool))|0=>λ_ _ _ _=>AS|n+1=>se (ma n) n
theorem zX (n:Nat):ma (n+1)=se (ma n) n:=rfl
def uW (n:Nat)(a0 a1 a2 a3:Addr):M (Sl×Bool):=sh (aN [.sl,li] a0) λ(x0:Sl×Int)=>sh (aN [li,.str,.bool,.sl,.sl] a2) λ(x1:Int×ζ×Bool×Sl×Sl)=>sh (aN [.sl,li] a1) λ(x2:Sl×Int)=>sh (aN [li,.str,.bool,.sl,.sl] a3) λ(x3:Int×ζ×Bool×Sl×Sl)=>sh (mY [some a1,some a3] (uV n (x0.1,x0.2) (x1.1,x1.2.1,x1.2.2.1,x1.2.2.2.1,x1.2.2.2.2))) λx4=>sh (uV n (x2.1,x2.2) (x3.1,x3.2.1,x3.2.2.1,x3.2.2.2.1,x3.2.2.2.2)) λx5=>sh (ma n x4 x5 (↑x4.len:Int) 0) (cY (λx6=>AI (x4,true)) (λx6=>AI (x6.1,x6.2)))
def vp (n:Nat)(a0 a1:Sl×Int)(a2:Int×Int):M (Sl×Bool):=sh (aM none aj [aH a0.1,vi a0.2]) λx0=>sh (aM none aj [aH a1.1,vi a1.2]) λx1=>sh (aM none cC [vi a2.1,vi a2.2]) λx2=>sh (eC 16) λx3=>sh (ar .sl ((an x0).plus 0)) λ(x4:Sl)=>sh (ar li ((an x2).plus 0)) λ(x5:Int)=>sh (aw x4 x5 5) λx6=>sh (aN [li,.str,.bool,.sl,.sl] x6) λ(x7:Int×ζ×Bool×Sl×Sl)=>sh (ar .sl ((an x1).plus 0)) λ(x8:Sl)=>sh (ar li ((an x2).plus 1)) λ(x9:Int)=>sh (aw x8 x9 5) λx10=>sh (aN [li,.str,.bool,.sl,.sl] x10) λ(x11:Int×ζ×Bool×Sl×Sl)=>sh (aM (some (x3+12)) az [vi 0,.string (ofBytes []),.bool false,aT,aT]) λx12=>sh (aM (some (x3+13)) az [vi 0,.string (ofBytes []),.bool false,aT,aT]) λx13=>sh (mY [some ((an x1).plus 0),some ((an x2).plus 1),some x10] (bF (an x12) [vi x7.1,.string x7.2.1,.bool x7.2.2.1,aH x7.2.2.2.1,aH x7.2.2.2.2])) λiY=>sh (bF (an x13) [vi x11.1,.string x11.2.1,.bool x11.2.2.1,aH x11.2.2.2.1,aH x11.2.2.2.2]) λx15=>sh (ar li ((an x12).plus 0)) λ(pT:Int)=>sh (ar li ((an x13).plus 0)) λ(x17:Int)=>if !decide (pT=x17) then AI (nP,false) else sh (ar .str ((an x12).plus 1)) λ(rF:ζ)=>sh (ar .str ((an x13).plus 1)) λ(x19:ζ)=>if !mX rF x19 then AI (nP,false) else sh (ar .bool ((an x12).plus 2)) λ(x20:Bool)=>sh (ar .bool ((an x13).plus 2)) λ(x21:Bool)=>if !x20==x21 then AI (nP,false) else sh (ar .sl ((an x12).plus 4)) λ(x22:Sl)=>sh (ar .sl ((an x13).plus 4)) λ(x23:Sl)=>if !decide ((↑x22.len:Int)=(↑x23.len:Int)) then AI (nP,false) else uW n (an x0) (an x1) (an x12) (an x13)
abbrev abA (n:Nat):bB:=⟨26,[.agg [.sl,.int .i64],.agg [.sl,.int .i64],.agg [.int .i64,.int .i64]],[cN,jT],υ3 (vp n)⟩
abbrev J3:L2:=⟨[0,1,0,1,1,1,1],[(10,cN),(11,cN),(60,aC),(61,aC)],[],[(6,cN),(7,jT)],[6,7,12]++List.range' 61 13,0,.ret,λn=>υ4 (ma n)⟩
def V3 (i:Nat):Option (List (Nat×η)):=Κ i 1 (Ω [0,2,6,8,1,3,4,5,7,9,10,11,12,13]++[(14,[7,9,11])]++Ω [15]) (Κ i 4 (Ω [0,1,3,4]++[(2,[3,4])]++Ω [5,6,7]) (Κ i 8 (Ω [0,1,2,4,5,6,3,7,8]) none))
abbrev ac5 (n:Nat):List (gC (Sl×Bool)):=[⟨[0,1,1,1],[.code [1,1,1,1]],[(3,aJ),(4,aJ),(8,aJ),(9,aJ)],υ4 (uW n)⟩]
theorem S8 (n:Nat):kZ TZp Tryz.f26 (J3.e n) J3.ws:=L2.ok Tryz.f26 J3 n C96 (dr:=V3) (hT:=λm _=>.m1 (K96 m))
theorem F6 (n:Nat):aP TZp (abA n):=bG Tryz.f26 (C96 n) (ll:=[J3.e n]) (dr:=V3) (js:=ac5 n) (hT:=⟨.nil,K96 n,.nil,(.cc (S8 n) .nil),(.cc .nil)⟩)
abbrev C97 (n:Nat):List bB:=abA n::C96 n
theorem K97 (n:Nat):aI TZp (C97 n):=.cons (F6 n) (K96 n)
structure bA where
 iJ:Sl->Addr->Addr->Addr->Sl->Sl->Int->Int->M (Unit⊕(Sl×Bool))
 iB:(Int×Int)->Sl->Addr->Addr->Addr->Addr->M (Sl×Bool)
def oj (G:bA)(n:Nat)(x:ξ)(a0:Int×Int)(a1:Sl):M (Sl×Bool):=if rh oA x then sh (pG [aJ,aJ,aJ,aJ] x) λ(c:Addr×Addr×Addr×Addr)=>G.iB a0 a1 c.1 c.2.1 c.2.2.1 c.2.2.2 else AS
def gR (G:bA)(n:Nat)(a0:Sl)(a1 a2 a3:Addr)(a4:Sl)(a5 a6:Int)(a7:Addr)(a8:Sl)(a9 a10:Int):M (Unit⊕(Sl×Bool)):=sh (ar .raw a2) λ(x0:ξ)=>sh (ar .sl (a1.plus 0)) λ(x1:Sl)=>sh (ar li (a3.plus 1)) λ(x2:Int)=>sh (aw x1 x2 5) λx3=>sh (ar .sl (x3.plus 4)) λ(x4:Sl)=>sh (aw x4 a5 1) λx5=>sh (ar li x5) λ(x6:Int)=>sh (aN [li,.str] a7) λ(x7:Int×ζ)=>sh (mY [some a2,some (a1.plus 0),some (a3.plus 1),some (x3.plus 4),some x5] (app false a0 2 aE 1 [vi x7.1,.string x7.2])) λx8=>sh (oj G n x0 (a6,x6) x8) λx9=>if x9.2 then AI (Sum.inr (x9.1,true)) else G.iJ a0 a1 a2 a3 a4 a8 a9 (i64.wrap (a10+1))
def o5 (G:bA)(n:Nat)(a0:Sl)(a1 a2 a3:Addr)(a4 a5:Sl)(a6 a7:Int):M (Unit⊕(Sl×Bool)):=if decide (a7<a6) then sh (aw a5 a7 1) λx0=>sh (ar li x0) λ(x1:Int)=>sh (aM none aE [vi 0,.string (ofBytes [])]) λx2=>sh (bF (an x2) [vi a7,.string (ofBytes [])]) λx3=>if decide (0<(↑a4.len:Int)) then sh (aw a4 a7 1) λx4=>sh (ar .str x4) λ(x5:ζ)=>sh (bF (an x2) [vi 0,.string x5]) λx6=>gR G n a0 a1 a2 a3 a4 a7 x1 (an x2) a5 a6 a7 else gR G n a0 a1 a2 a3 a4 a7 x1 (an x2) a5 a6 a7 else AI (Sum.inl ())
def sf (G:bA)(n:Nat)(a0:Int×Int)(a1:Sl)(a2 a3 a4 a5:Addr):M (Sl×Bool):=sh (aM none cC [vi a0.1,vi a0.2]) λx0=>sh (ar .mp a2) λ(x1:μ)=>sh (aN [li,li] (an x0)) λ(x2:Int×Int)=>sh (xA cC (Ty.one .bool) false x1 (Value.agg #[vi x2.1,vi x2.2])) λ(x3:Bool×Bool)=>if x3.2 then AI (nP,false) else sh (ar .mp a2) λ(x4:μ)=>sh (aN [li,li] (an x0)) λ(x5:Int×Int)=>sh (Df cC x4 (Value.agg #[vi x5.1,vi x5.2]) (Value.bool true)) λx6=>sh (aN [.sl,li] a3) λ(x7:Sl×Int)=>sh (aN [.sl,li] a4) λ(x8:Sl×Int)=>sh (aN [li,li] (an x0)) λ(x9:Int×Int)=>sh (vp n (x7.1,x7.2) (x8.1,x8.2) (x9.1,x9.2)) λx10=>if !x10.2 then sh (aM none aE []) λx11=>sh (GP a1 2) λx12=>sh (app false { a:=some (an x11),len:=0,cap:=1 } 2 41 a1.len x12) λx13=>AI (x13,true) else sh (ar .sl (a3.plus 0)) λ(x11:Sl)=>sh (ar li ((an x0).plus 0)) λ(x12:Int)=>sh (aw x11 x12 5) λx13=>sh (ar .sl (x13.plus 4)) λ(iY:Sl)=>sh (G.iJ a1 a4 a5 (an x0) x10.1 iY (↑iY.len:Int) 0) (cY (λx15=>AI (nP,false)) (λx15=>AI (x15.1,x15.2)))
def bA.at:Nat->bA|0=>⟨λ_ _ _ _ _ _ _ _=>AS,λ_ _ _ _ _ _=>AS⟩|n+1=>⟨o5 (bA.at n) n,sf (bA.at n) n⟩
def iJ (n:Nat):=(bA.at n).iJ
def iB (n:Nat):=(bA.at n).iB
def AY (n:Nat):=oj (bA.at n) n
def yZ (n:Nat):=gR (bA.at n) n
abbrev Qw (n:Nat):bB:=⟨25,[.agg [.int .i64,.int .i64],cN,aJ,aJ,aJ,aJ],[cN,jT],υ6 (iB n)⟩
abbrev J4:L2:=⟨[0,1,0,1,1,1,1,1],[(1,cN),(4,aJ),(5,aJ),(6,aJ),(10,cN),(40,cN),(41,aC),(42,aC)],[],[(8,cN),(9,jT)],[8,9]++List.range' 12 5++List.range' 42 39,0,.ret,λn=>υ8 (iJ n)⟩
abbrev C98 (n:Nat):List bB:=Qw n::C97 n
abbrev O0 (n:Nat):List jM:=[⟨58,[.agg [.int .i64,.int .i64],cN],[cN,jT],λx a=>AY n x a.1 a.2⟩]
def V4 (i:Nat):Option (List (Nat×η)):=Κ i 13 (Ω [1,2,4,9,13,0,3,5,6,7,8,10,11,12,14,15]++[(16,[0,3,5,8,11])]++Ω [17,18,19,20,21,22]) none
abbrev S9 (n:Nat):List (gC (Unit⊕(Sl×Bool))):=[⟨[0,1,1,1,0,0,1,1,0,0,1,0,1,1,1,1,1],[.code [1,1,1,1,0,0,1,1,0,0,1,0,1,1,1,1,1],.au 1,.code [1,1,1,0,0,1,0,1,1,1,1,1]],[(1,cN),(4,aJ),(5,aJ),(6,aJ),(10,cN),(12,aC),(13,aC),(14,aJ),(40,cN),(41,aC),(42,aC)],υ11 (yZ n)⟩]
def mc (n:Nat):Prop:=aP TZp (Qw n)
theorem V5 (n:Nat)(H:mc n):aI TZp (C98 n):=.cons H (K97 n)
theorem V6 (n:Nat)(H:mc n):pI TZp (O0 n):=.cons (dw (l:=[⟨25,[aJ,aJ,aJ,aJ],λa c=>iB n a.1 a.2 c.1 c.2.1 c.2.2.1 c.2.2.2⟩]) (.cons (λa c=>aV (by kernel_rfl) ((H) (a.1,a.2,c.1,c.2.1,c.2.2.1,c.2.2.2))) .nil) (λx a=>by kernel_rfl)) .nil
theorem Ta (n:Nat)(H:∀m,m<n->mc m):kZ TZp Tryz.f25 (J4.e n) J4.ws:=L2.ok Tryz.f25 J4 n C98 (dt:=O0) (dr:=V4) (jt:=S9) (hT:=λm hm=>⟨.nil,V5 m (H m hm),(V6 m (H m hm)),.nil,(.cc .nil)⟩)
theorem xm (n:Nat)(H:∀m,m<n+1->mc m):aP TZp (Qw (n+1)):=bG Tryz.f25 (C98 n) (dl:=O0 n) (ll:=[J4.e n]) (dr:=V4) (hT:=⟨.nil,V5 n (H n (aam n)),(V6 n (H n (aam n))),(.cc (Ta n (λk hk=>H k (ab8 hk))) .nil),.nil⟩)
theorem sX:∀n m,m<n->mc m:=by
 intro n
 induction n with
 |zero=>intro m hm;exact absurd hm (agI m)
 |succ n ih=>
  intro m hm;cases m with
  |zero=>exact gu (fn:=Tryz.f25) (by kernel_rfl) (by kernel_rfl) (by kernel_rfl) (λ_=>rfl)
  |succ k=>exact xm k λm hm=>ih m (by omega)
theorem BG (n:Nat):aP TZp (Qw n):=(sX (n+1) n (aam n))
theorem K98 (n:Nat):aI TZp (C98 n):=V5 n (sX (n+1) n (aam n))
def sk (n:Nat)(x:ξ)(a0:Int×Int)(a1:Sl):M (Sl×Bool):=if rh oA x then sh (pG [aJ,aJ,aJ,aJ] x) λ(c:Addr×Addr×Addr×Addr)=>iB n a0 a1 c.1 c.2.1 c.2.2.1 c.2.2.2 else AS
def pF (n:Nat)(a0 a1:Addr):M (Sl×Bool×Bool):=sh (Be cC) λx0=>sh (aM none nZ [.map none]) λx1=>sh (bF (an x1) [.map (some x0)]) λx2=>sh (aM none eI [Value.nilFunc]) λx3=>sh (bF (an x3) [.func (Fn.func oA) #[] #[.pointer (some (an x1)),.pointer (some a0),.pointer (some a1),.pointer (some (an x3))]]) λx4=>sh (ar .raw (an x3)) λ(x5:ξ)=>sh (ar li (a0.plus 1)) λ(x6:Int)=>sh (ar li (a1.plus 1)) λ(x7:Int)=>sh (sk n x5 (x6,x7) nP) λx8=>AI (x8.1,x8.2,true)
def oP (n:Nat)(a0 a1:Sl×Int):M (Sl×Bool×Bool):=sh (aM none aj [aH a0.1,vi a0.2]) λx0=>sh (aM none aj [aH a1.1,vi a1.2]) λx1=>sh (aN [.sl,li] (an x0)) λ(x2:Sl×Int)=>sh (qQ n (x2.1,x2.2)) λx3=>sh (aM none aj [aT,vi 0]) λx4=>sh (bF (an x4) [aH x3.1.1,vi x3.1.2]) λx5=>sh (aN [.sl,li] (an x1)) λ(x6:Sl×Int)=>sh (qQ n (x6.1,x6.2)) λx7=>sh (aM none aj [aT,vi 0]) λx8=>sh (bF (an x8) [aH x7.1.1,vi x7.1.2]) λx9=>if !decide (x3.2=0) then AI (nP,false,false) else if !decide (x7.2=0) then AI (nP,false,false) else pF n (an x4) (an x8)
abbrev abB (n:Nat):bB:=⟨18,[.agg [.sl,.int .i64],.agg [.sl,.int .i64]],[cN,jT,jT],υ2 (oP n)⟩
abbrev V7 (n:Nat):List jM:=[⟨34,[.agg [.int .i64,.int .i64],cN],[cN,jT],λx a=>sk n x a.1 a.2⟩]
abbrev ac6 (n:Nat):List (gC (Sl×Bool×Bool)):=[⟨[0,1,1,1,1],[.code [1,1,1,1,1]],[(7,aJ),(9,aJ)],υ2 (pF n)⟩]
theorem ac7 (n:Nat):pI TZp (V7 n):=.cons (dw (l:=[⟨25,[aJ,aJ,aJ,aJ],λa c=>iB n a.1 a.2 c.1 c.2.1 c.2.2.1 c.2.2.2⟩]) (.cons (λa c=>aV (by kernel_rfl) ((BG n) (a.1,a.2,c.1,c.2.1,c.2.2.1,c.2.2.2))) .nil) (λx a=>by kernel_rfl)) .nil
theorem D8 (n:Nat):aP TZp (abB n):=bG Tryz.f18 (C98 n) (dl:=V7 n) (js:=ac6 n) (hT:=⟨.nil,K98 n,(ac7 n),.nil,(.cc .nil)⟩)
abbrev C99 (n:Nat):List bB:=abB n::C98 n
theorem K99 (n:Nat):aI TZp (C99 n):=.cons (D8 n) (K98 n)
def sY (n:Nat)(a0 a1:Sl×Int):M (Sl×Bool):=sh (aM none aj [aH a0.1,vi a0.2]) λx0=>sh (aM none aj [aH a1.1,vi a1.2]) λx1=>sh (aN [.sl,li] (an x0)) λ(x2:Sl×Int)=>sh (aN [.sl,li] (an x1)) λ(x3:Sl×Int)=>sh (oP n (x2.1,x2.2) (x3.1,x3.2)) λx4=>AI (x4.1,x4.2.1)
abbrev afs (n:Nat):bB:=⟨7,[.agg [.sl,.int .i64],.agg [.sl,.int .i64]],[cN,jT],υ2 (sY n)⟩
theorem F7 (n:Nat):aP TZp (afs n):=bG Tryz.f7 (C99 n) (hT:=.m1 (K99 n))
abbrev ac8 (n:Nat):List bB:=afs n::C99 n
theorem aft (n:Nat):aI TZp (ac8 n):=.cons (F7 n) (K99 n)
def ml (n:Nat)(a0 a1:Sl×Int):M Bool:=sh (aM none aj [aH a0.1,vi a0.2]) λx0=>sh (aM none aj [aH a1.1,vi a1.2]) λx1=>sh (aN [.sl,li] (an x0)) λ(x2:Sl×Int)=>sh (aN [.sl,li] (an x1)) λ(x3:Sl×Int)=>sh (oP n (x2.1,x2.2) (x3.1,x3.2)) λx4=>if x4.2.2 then AI !x4.2.1 else AI false
abbrev afu (n:Nat):bB:=⟨8,[.agg [.sl,.int .i64],.agg [.sl,.int .i64]],[jT],υ2 (ml n)⟩
theorem F8 (n:Nat):aP TZp (afu n):=bG Tryz.f8 (ac8 n) (hT:=.m1 (aft n))
abbrev ac9 (n:Nat):List bB:=afu n::ac8 n
theorem afv (n:Nat):aI TZp (ac9 n):=.cons (F8 n) (aft n)
def ea (n:Nat)(a0:ζ):M (Int×ζ×Bool×Sl×Sl):=sh (aM none az [vi 0,.string (ofBytes []),.bool false,aT,aT]) λx0=>sh (bF (an x0) [vi 2,.string a0,.bool false,aT,aT]) λx1=>sh (aN [li,.str,.bool,.sl,.sl] (an x0)) λ(x2:Int×ζ×Bool×Sl×Sl)=>AI (x2.1,x2.2.1,x2.2.2.1,x2.2.2.2.1,x2.2.2.2.2)
abbrev afw (n:Nat):bB:=⟨9,[oS],[.agg [.int .i64,.str,.bool,.sl,.sl]],λx=>ea n x⟩
theorem xo (n:Nat):aP TZp (afw n):=bG Tryz.f9 (ac9 n) (hT:=.m1 (afv n))
abbrev Y6 (n:Nat):List bB:=afw n::ac9 n
theorem ada (n:Nat):aI TZp (Y6 n):=.cons (xo n) (afv n)
def jK (G:Sl->Sl->Int->M (Unit⊕Bool))(n:Nat)(a0 a1:Sl)(a2:Int):M (Unit⊕Bool):=if decide (a2<(↑a0.len:Int)) then sh (aw a0 a2 2) λx0=>sh (aw a1 a2 2) λx1=>sh (aN [li,.str] x0) λ(x2:Int×ζ)=>sh (aN [li,.str] x1) λ(x3:Int×ζ)=>if !(decide (x2.1=x3.1)&&(mX x2.2 x3.2&&true)) then AI (Sum.inr false) else G a0 a1 (i64.wrap (a2+1)) else AI (Sum.inl ())
def dX:Nat->Sl->Sl->Int->M (Unit⊕Bool)|0=>λ_ _ _=>AS|n+1=>jK (dX n) n
theorem sZ (n:Nat):dX (n+1)=jK (dX n) n:=rfl
def jL (n:Nat)(a0 a1:Sl):M Bool:=if !decide ((↑a0.len:Int)=(↑a1.len:Int)) then AI false else sh (dX n a0 a1 0) (cY (λx0=>AI true) (λx0=>AI x0))
abbrev abC (n:Nat):bB:=⟨10,[cN,cN],[jT],υ2 (jL n)⟩
abbrev J5:L2:=⟨[0,1,0,1,1],[(0,cN),(1,cN),(5,aC)],[],[(4,jT)],[4,5]++List.range' 11 15,0,.ret,λn=>υ3 (dX n)⟩
def V8 (i:Nat):Option (List (Nat×η)):=Κ i 6 (Ω [0,1,2,4,5,6,3,7,8]) none
theorem Tb (n:Nat):kZ TZp Tryz.f10 (J5.e n) J5.ws:=L2.ok Tryz.f10 J5 n Y6 (dr:=V8) (hT:=λm _=>.m1 (ada m))
theorem vO (n:Nat):aP TZp (abC n):=bG Tryz.f10 (Y6 n) (ll:=[J5.e n]) (dr:=V8) (hT:=⟨.nil,ada n,.nil,(.cc (Tb n) .nil),.nil⟩)
abbrev adb (n:Nat):List bB:=abC n::Y6 n
theorem afx (n:Nat):aI TZp (adb n):=.cons (vO n) (ada n)
def mL (n:Nat):M Bool:=sh (aM none av [vi 1,vi 2]) λx0=>sh (ea n (ofBytes [49])) λx1=>sh (ea n (ofBytes [49])) λx2=>sh (aM none az [vi 9,.string (ofBytes []),.bool false,aT,.slice (some (an x0)) 2 3,vi x1.1,.string x1.2.1,.bool x1.2.2.1,aH x1.2.2.2.1,aH x1.2.2.2.2,vi x2.1,.string x2.2.1,.bool x2.2.2.1,aH x2.2.2.2.1,aH x2.2.2.2.2]) λx3=>sh (aM none aj [aT,vi 0]) λx4=>sh (bF (an x4) [.slice (some (an x3)) 3 4,vi 0]) λx5=>sh (aM none av [vi 1,vi 1]) λx6=>sh (ea n (ofBytes [49])) λx7=>sh (aM none az [vi 9,.string (ofBytes []),.bool false,aT,.slice (some (an x6)) 2 3,vi x7.1,.string x7.2.1,.bool x7.2.2.1,aH x7.2.2.2.1,aH x7.2.2.2.2]) λx8=>sh (aM none aj [aT,vi 0]) λx9=>sh (bF (an x9) [.slice (some (an x8)) 2 3,vi 0]) λx10=>sh (aM none av [vi 1,vi 2]) λx11=>sh (ea n (ofBytes [49])) λx12=>sh (ea n (ofBytes [53])) λx13=>sh (aM none az [vi 9,.string (ofBytes []),.bool false,aT,.slice (some (an x11)) 2 3,vi x12.1,.string x12.2.1,.bool x12.2.2.1,aH x12.2.2.2.1,aH x12.2.2.2.2,vi x13.1,.string x13.2.1,.bool x13.2.2.1,aH x13.2.2.2.1,aH x13.2.2.2.2]) λiY=>sh (aM none aj [aT,vi 0]) λx15=>sh (bF (an x15) [.slice (some (an iY)) 3 4,vi 0]) λpT=>sh (aM none av [vi 0]) λx17=>sh (aM none az [vi 9,.string (ofBytes []),.bool false,aT,.slice (some (an x17)) 1 2]) λrF=>sh (aM none aj [aT,vi 0]) λx19=>sh (bF (an x19) [.slice (some (an rF)) 1 2,vi 0]) λx20=>sh (aM none av [vi 1]) λx21=>sh (aM none av [vi 0]) λx22=>sh (aM none az [vi 9,.string (ofBytes []),.bool false,aT,.slice (some (an x21)) 1 2,vi 9,.string (ofBytes []),.bool false,aT,.slice (some (an x22)) 1 2]) λx23=>sh (aM none aj [aT,vi 0]) λx24=>sh (bF (an x24) [.slice (some (an x23)) 2 3,vi 0]) λx25=>sh (aN [.sl,li] (an x4)) λ(x26:Sl×Int)=>sh (aN [.sl,li] (an x15)) λ(x27:Sl×Int)=>sh (sY n (x26.1,x26.2) (x27.1,x27.2)) λx28=>sh (aN [.sl,li] (an x4)) λ(x29:Sl×Int)=>sh (aN [.sl,li] (an x9)) λ(x30:Sl×Int)=>sh (ml n (x29.1,x29.2) (x30.1,x30.2)) λx31=>if x31 then sh (aN [.sl,li] (an x4)) λ(x32:Sl×Int)=>sh (aN [.sl,li] (an x15)) λ(x33:Sl×Int)=>sh (ml n (x32.1,x32.2) (x33.1,x33.2)) λx34=>if !x34 then sh (aN [.sl,li] (an x19)) λ(x35:Sl×Int)=>sh (aN [.sl,li] (an x24)) λ(x36:Sl×Int)=>sh (ml n (x35.1,x35.2) (x36.1,x36.2)) λx37=>if x37 then sh (aN [.sl,li] (an x19)) λ(x38:Sl×Int)=>sh (aN [.sl,li] (an x4)) λ(x39:Sl×Int)=>sh (ml n (x38.1,x38.2) (x39.1,x39.2)) λx40=>if !x40 then if x28.2 then sh (aM none aE [vi 1,.string (ofBytes [])]) λx41=>sh (jL n x28.1 { a:=some (an x41),len:=1,cap:=2 }) λx42=>AI x42 else AI false else AI false else AI false else AI false else AI false
abbrev afy (n:Nat):bB:=⟨4,[],[jT],λ_=>mL n⟩
theorem ya (n:Nat):aP TZp (afy n):=bG Tryz.f4 (adb n) (hT:=.m1 (afx n))
abbrev Y7 (n:Nat):List bB:=afy n::adb n
theorem ade (n:Nat):aI TZp (Y7 n):=.cons (ya n) (afx n)
def kV (G:Addr->Int->Int->Int->M ((Int×Int)⊕Bool))(n:Nat)(a0:Addr)(a1 a2 a3:Int)(a4:Addr):M ((Int×Int)⊕Bool):=sh (ar .sl (a4.plus 3)) λ(x0:Sl)=>sh (ar .sl (a4.plus 4)) λ(x1:Sl)=>sh (ar .str (a4.plus 1)) λ(x2:ζ)=>G a0 (i64.wrap (a1+i64.wrap ((↑x0.len:Int)+(↑x1.len:Int)))) (i64.wrap (a2+(↑(ByteArray.size x2):Int))) (i64.wrap (a3+1))
def nM (G:Addr->Int->Int->Int->M ((Int×Int)⊕Bool))(n:Nat)(a0:Addr)(a1 a2 a3:Int):M ((Int×Int)⊕Bool):=sh (ar .sl (a0.plus 0)) λ(x0:Sl)=>if decide (a3<(↑x0.len:Int)) then sh (ar .sl (a0.plus 0)) λ(x1:Sl)=>sh (aw x1 a3 5) λx2=>sh (aN [li,.str,.bool,.sl,.sl] x2) λ(x3:Int×ζ×Bool×Sl×Sl)=>sh (aM none az [vi 0,.string (ofBytes []),.bool false,aT,aT]) λx4=>sh (bF (an x4) [vi x3.1,.string x3.2.1,.bool x3.2.2.1,aH x3.2.2.2.1,aH x3.2.2.2.2]) λx5=>sh (ar .str ((an x4).plus 1)) λ(x6:ζ)=>if decide (100<(↑(ByteArray.size x6):Int)) then AI (Sum.inr false) else sh (ar .sl ((an x4).plus 3)) λ(x7:Sl)=>if decide (80<(↑x7.len:Int)) then AI (Sum.inr false) else sh (ar .sl ((an x4).plus 4)) λ(x8:Sl)=>if decide (80<(↑x8.len:Int)) then AI (Sum.inr false) else kV G n a0 a1 a2 a3 (an x4) else AI (Sum.inl (a1,a2))
def fD:Nat->Addr->Int->Int->Int->M ((Int×Int)⊕Bool)|0=>λ_ _ _ _=>AS|n+1=>nM (fD n) n
theorem vP (n:Nat):fD (n+1)=nM (fD n) n:=rfl
def xp (n:Nat):=kV (fD n) n
def oQ (n:Nat)(a0:Sl×Int):M Bool:=sh (aM none aj [aH a0.1,vi a0.2]) λx0=>sh (ar .sl ((an x0).plus 0)) λ(x1:Sl)=>if decide (40<(↑x1.len:Int)) then AI false else sh (fD n (an x0) 0 0 0) (cY (λx2=>if decide (x2.1<=240) then AI (decide (x2.2<=300)) else AI false) (λx2=>AI x2))
abbrev afz (n:Nat):bB:=⟨5,[.agg [.sl,.int .i64]],[jT],λx=>oQ n x⟩
abbrev Qx:L2:=⟨[0,1,0,1,1,1],[(1,aJ),(3,aC),(4,aC),(5,aC)],[(3,aC),(4,aC)],[(2,jT)],List.range' 2 5++List.range' 11 42,0,.ret,λn=>υ4 (fD n)⟩
abbrev V9 (n:Nat):List (gC ((Int×Int)⊕Bool)):=[⟨[0,1,1,0,0,1,0,0,1,0,1,1,1],[.code [1,1,1,0,0,1,0,0,1,0,1,1,1],.au 1,.code [1,1,0,0,1,0,1,1,1]],[(1,aJ),(3,aC),(4,aC),(5,aC),(6,aJ)],υ5 (xp n)⟩]
theorem Wa (n:Nat):kZ TZp Tryz.f5 (Qx.e n) Qx.ws:=L2.ok Tryz.f5 Qx n Y7 (jt:=V9) (hT:=λm _=>⟨.nil,ade m,.nil,.nil,(.cc .nil)⟩)
theorem zY (n:Nat):aP TZp (afz n):=bG Tryz.f5 (Y7 n) (ll:=[Qx.e n]) (hT:=⟨.nil,ade n,.nil,(.cc (Wa n) .nil),.nil⟩)
abbrev afA (n:Nat):List bB:=afz n::Y7 n
theorem aiA (n:Nat):aI TZp (afA n):=.cons (zY n) (ade n)
def fS (n:Nat)(a0:Int)(a1:Addr):M Bool:=sh (ar .sl (a1.plus 0)) λ(x0:Sl)=>sh (oq (decide ((↑x0.len:Int)≠0))) λx1=>sh (ar .sl (a1.plus 0)) λ(x2:Sl)=>sh (aw x2 ((i64.wrap a0).tmod (↑x0.len:Int)) 5) λx3=>sh (ar li (x3.plus 0)) λ(x4:Int)=>if !decide (x4=5) then AI true else sh (eC 9) λx5=>sh (ar .sl (a1.plus 0)) λ(x6:Sl)=>sh (ar li (a1.plus 1)) λ(x7:Int)=>sh (aM (some (x5+0)) az []) λx8=>sh (GP x6 5) λx9=>sh (app (some (x5+3)).isSome { a:=some (an x8),len:=0,cap:=1 } 5 31 x6.len x9) λx10=>sh (aM (some (x5+7)) aj [aT,vi 0]) λx11=>sh (bF (an x11) [aH x10,vi x7]) λx12=>sh (ar .sl ((an x11).plus 0)) λ(x13:Sl)=>sh (ar .sl ((an x11).plus 0)) λ(iY:Sl)=>sh (aw iY ((i64.wrap a0).tmod (↑x0.len:Int)) 5) λx15=>sh (ar .str (x15.plus 1)) λ(pT:ζ)=>sh (kA pT (ofBytes [33])) λx17=>sh (aw x13 ((i64.wrap a0).tmod (↑x0.len:Int)) 5) λrF=>sh (bF (rF.plus 1) [.string x17]) λx19=>sh (aN [.sl,li] (an x11)) λ(x20:Sl×Int)=>sh (kG n (x20.1,x20.2)) λx21=>if !decide (x21=0) then AI true else sh (aN [.sl,li] a1) λ(x22:Sl×Int)=>sh (aN [.sl,li] (an x11)) λ(x23:Sl×Int)=>sh (sY n (x22.1,x22.2) (x23.1,x23.2)) λx24=>sh (aN [.sl,li] a1) λ(x25:Sl×Int)=>sh (aN [.sl,li] (an x11)) λ(x26:Sl×Int)=>sh (ml n (x25.1,x25.2) (x26.1,x26.2)) λx27=>if !x27 then AI x24.2 else AI false
def jV (n:Nat)(a0:Sl×Int)(a1:Int):M Bool:=sh (aM none aj [aH a0.1,vi a0.2]) λx0=>sh (mL n) λx1=>if !x1 then AI false else sh (aN [.sl,li] (an x0)) λ(x2:Sl×Int)=>sh (oQ n (x2.1,x2.2)) λx3=>if !x3 then AI true else sh (aN [.sl,li] (an x0)) λ(x4:Sl×Int)=>sh (kG n (x4.1,x4.2)) λx5=>if !decide (x5=0) then AI true else fS n a1 (an x0)
abbrev aiB (n:Nat):bB:=⟨3,[.agg [.sl,.int .i64],.one (.int .u8)],[jT],υ2 (jV n)⟩
def afB (i:Nat):Option (List (Nat×η)):=Κ i 8 (Ω [1,4,2,5,0,3,6,7,8]) (Κ i 9 (Ω [0,2,3,5,1,4,6,7,8,9,10,11,12]) none)
abbrev afC (n:Nat):List (gC Bool):=[⟨[0,1,1,1],[.code [1,1,1,1]],[(1,.one (.int .u8)),(2,aJ)],υ2 (fS n)⟩]
theorem tH (n:Nat):aP TZp (aiB n):=bG Tryz.f3 (afA n) (dr:=afB) (js:=afC n) (hT:=⟨.nil,aiA n,.nil,.nil,(.cc .nil)⟩)
end Go.Sh
