
import Derived.Test.YtcdofopdlaebaaaGreatDoorSh2
set_option linter.all false
set_option maxRecDepth 100000
set_option maxHeartbeats 0
namespace Go.Sh
open Go Go.Ago Go.Proofs Go.IntKind
def rP (n:Nat)(a0:Sl×Int):M Int:=sh (aO none aj [aE a0.1,vi a0.2]) λx0=>sh (aI [.sl,li] (ak x0)) λ(x1:Sl×Int)=>sh (lL n (x1.1,x1.2)) λx2=>if !decide (x2=0) then AI 3 else sh (aI [.sl,li] (ak x0)) λ(x3:Sl×Int)=>sh (uJ n (x3.1,x3.2)) λx4=>if !x4.2 then AI 14 else AI 0
abbrev aay (n:Nat):bz:=⟨78,[.agg [.sl,.int .i64]],[aB],λx=>rP n x⟩
theorem BV (n:Nat):aP TZp (aay n):=bE Tryz.f78 (C85 n) (hT:=.m1 (K85 n))
abbrev C86 (n:Nat):List bz:=aay n::C85 n
theorem K86 (n:Nat):aJ TZp (C86 n):=.cons (BV n) (K85 n)
def gv (n:Nat)(a0:Option Addr):M ByteArray:=sh (nn a0) λx0=>sh (nn a0) λx1=>sh (aq .sl (x0.plus 1)) λ(x2:Sl)=>sh (Cj x2.a x2.len) λx3=>sh (aq .sl (x1.plus 1)) λ(x4:Sl)=>sh (Xl gC x3 (↑x4.len:Int)) λx5=>AI x5
abbrev aaz (n:Nat):bz:=⟨81,[tA],[oe],λx=>gv n x⟩
def abV (i:Nat):Option (List (Nat×List Nat)):=cond (Nat.beq i 1) (some [(0,[]),(1,[]),(2,[]),(5,[]),(6,[]),(7,[]),(3,[]),(4,[]),(8,[]),(9,[]),(10,[]),(11,[])]) (none)
theorem ur (n:Nat):aP TZp (aaz n):=bE Tryz.f81 (C86 n) (dr:=abV) (hT:=.m1 (K86 n))
abbrev C87 (n:Nat):List bz:=aaz n::C86 n
theorem K87 (n:Nat):aJ TZp (C87 n):=.cons (ur n) (K86 n)
def ff (n:Nat)(a0:Option Addr):M Unit:=sh (nn a0) λx0=>sh (aq .ptr (x0.plus 0)) λ(x1:Option Addr)=>if Option.isNone x1 then sh (nn a0) λx2=>sh (inB x2) λx3=>sh (pO n (some x3)) λx4=>sh (nn x4) λx5=>sh (atB fq 2 x5) λx6=>sh (nn a0) λx7=>sh (bG (x7.plus 0) [.pointer (some x6)]) λx8=>AI () else sh (nn a0) λx2=>sh (aq .ptr (x2.plus 0)) λ(x3:Option Addr)=>sh (Xb x3 a0) λx4=>if !x4 then AS else AI ()
abbrev U7 (n:Nat):bz:=⟨147,[tA],[],λx=>ff n x⟩
theorem sL (n:Nat):aP TZp (U7 n):=bE Tryz.f147 (C87 n) (hT:=.m1 (K87 n))
abbrev C88 (n:Nat):List bz:=U7 n::C87 n
theorem K88 (n:Nat):aJ TZp (C88 n):=.cons (sL n) (K87 n)
def aG (n:Nat)(a0:Option Addr)(a1:Int):M Value:=sh (ff n a0) λx0=>sh (nn a0) λx1=>sh (aq .sl (x1.plus 1)) λ(x2:Sl)=>sh (app false x2 1 gC 1 [.int IntKind.u8 a1]) λx3=>sh (nn a0) λx4=>sh (bG (x4.plus 1) [aE x3]) λx5=>AI Value.nilIface
abbrev U8 (n:Nat):bz:=⟨111,[tA,.one (.int .u8)],[rW],λx=>aG n x.1 x.2⟩
theorem sM (n:Nat):aP TZp (U8 n):=bE Tryz.f111 (C88 n) (hT:=.m1 (K88 n))
abbrev C89 (n:Nat):List bz:=U8 n::C88 n
theorem K89 (n:Nat):aJ TZp (C89 n):=.cons (sM n) (K88 n)
def qn (G:ByteArray->Addr->Int->Int->M Unit)(n:Nat)(a0:ByteArray)(a1:Addr)(a2 a3:Int):M Unit:=if decide (a3<a2) then sh (jd a0 a3) λx0=>if decide ((↑x0.toNat:Int)=34) then sh (aG n (some a1) 92) λx1=>sh (jd a0 a3) λx2=>sh (aG n (some a1) (↑x2.toNat:Int)) λx3=>G a0 a1 a2 (i64.wrap (a3+1)) else sh (jd a0 a3) λx1=>if decide ((↑x1.toNat:Int)=92) then sh (aG n (some a1) 92) λx2=>sh (jd a0 a3) λx3=>sh (aG n (some a1) (↑x3.toNat:Int)) λx4=>G a0 a1 a2 (i64.wrap (a3+1)) else sh (jd a0 a3) λx2=>sh (aG n (some a1) (↑x2.toNat:Int)) λx3=>G a0 a1 a2 (i64.wrap (a3+1)) else AI ()
def iE:Nat->ByteArray->Addr->Int->Int->M Unit|0=>λ_ _ _ _=>AS|n+1=>qn (iE n) n
theorem yc (n:Nat):iE (n+1)=qn (iE n) n:=rfl
def tg (n:Nat)(a0:ByteArray):M ByteArray:=sh (aO none fq [.pointer none,aU]) λx0=>sh (aG n (some (ak x0)) 34) λx1=>sh (iE n a0 (ak x0) (↑a0.size:Int) 0) λx2=>sh (aG n (some (ak x0)) 34) λx3=>sh (gv n (some (ak x0))) λx4=>AI x4
abbrev U9 (n:Nat):bz:=⟨146,[oe],[oe],λx=>tg n x⟩
abbrev DW:L1:=⟨[0,1,0,1,1,1],[(0,oe),(3,aK),(7,aB),(8,aB)],[],[4]++List.range' 8 19,0,λn x=>iE n x.1 x.2.1 x.2.2.1 x.2.2.2⟩
theorem NZ (n:Nat):kE TZp Tryz.f146 (DW.e n) DW.ws:=L1.ok Tryz.f146 DW n C89 (hT:=λm _=>.m1 (K89 m))
theorem Df (n:Nat):aP TZp (U9 n):=bE Tryz.f146 (C89 n) (ll:=[DW.e n]) (hT:=⟨.nil,K89 n,.nil,(.cc (NZ n) .nil),.nil⟩)
abbrev C90 (n:Nat):List bz:=U9 n::C89 n
theorem K90 (n:Nat):aJ TZp (C90 n):=.cons (Df n) (K89 n)
def sN (G:Option Addr->Sl->Int->Int->M Sl)(n:Nat)(a0:Option Addr)(a1:Sl)(a2 a3:Int):M Sl:=if decide (a3<a2) then sh (nn a0) λx0=>sh (nn a0) λx1=>sh (aq .str (x0.plus 1)) λ(x2:ByteArray)=>sh (jd x2 a3) λx3=>sh (kC (decide (0<=4))) λx4=>sh (jd (ofBytes [48,49,50,51,52,53,54,55,56,57,97,98,99,100,101,102]) ((↑x3.toNat:Int).fdiv (2^4))) λx5=>sh (aq .str (x1.plus 1)) λ(x6:ByteArray)=>sh (jd x6 a3) λx7=>sh (jd (ofBytes [48,49,50,51,52,53,54,55,56,57,97,98,99,100,101,102]) (IntKind.u8.wrap (↑(BitVec.ofInt 8 (↑x7.toNat:Int)&&&BitVec.ofInt 8 15).toNat:Int))) λx8=>sh (app true a1 1 gC 2 [.int IntKind.u8 (↑x5.toNat:Int),.int IntKind.u8 (↑x8.toNat:Int)]) λx9=>G a0 x9 a2 (i64.wrap (a3+1)) else AI a1
def mF:Nat->Option Addr->Sl->Int->Int->M Sl|0=>λ_ _ _ _=>AS|n+1=>sN (mF n) n
theorem Ad (n:Nat):mF (n+1)=sN (mF n) n:=rfl
def ud (n:Nat)(a0:Option Addr):M ByteArray:=sh (nn a0) λx0=>sh (aq li (x0.plus 0)) λ(x1:Int)=>if decide (x1=0) then AI (ofBytes [110,117,108,108]) else if decide (x1=5) then sh (nn a0) λx2=>sh (aq .str (x2.plus 1)) λ(x3:ByteArray)=>sh (tg n x3) λx4=>AI x4 else if decide (x1=6) then sh (aO none gC [.int IntKind.u8 35]) λx2=>sh (nn a0) λx3=>sh (aq .str (x3.plus 1)) λ(x4:ByteArray)=>sh (mF n a0 { a:=some (ak x2),len:=1,cap:=2 } (↑(ByteArray.size x4):Int) 0) λx5=>sh (strOf x5) λx6=>AI x6 else if decide (x1=7) then sh (nn a0) λx2=>sh (aq .str (x2.plus 1)) λ(x3:ByteArray)=>sh (kF (ofBytes [64]) x3) λx4=>AI x4 else if decide (x1=8) then sh (nn a0) λx2=>sh (aq .str (x2.plus 1)) λ(x3:ByteArray)=>sh (kF (ofBytes [37]) x3) λx4=>AI x4 else sh (nn a0) λx2=>sh (aq .str (x2.plus 1)) λ(x3:ByteArray)=>AI x3
abbrev Va (n:Nat):bz:=⟨109,[tA],[oe],λx=>ud n x⟩
abbrev DX:L1:=⟨[0,1,0,1,0,1,1,1,1,1,0,1,0,1],[(0,tA),(3,cJ),(25,aB),(26,aB)],[(3,cJ)],[3,4]++List.range' 26 23,1,λn x=>mF n x.1 x.2.1 x.2.2.1 x.2.2.2⟩
def PE (i:Nat):Option (List (Nat×List Nat)):=cond (Nat.beq i 11) (some [(0,[]),(1,[]),(2,[]),(3,[]),(5,[]),(9,[]),(10,[]),(11,[]),(13,[]),(4,[]),(6,[]),(7,[]),(8,[]),(12,[]),(14,[]),(15,[]),(16,[]),(17,[]),(18,[]),(19,[])]) (none)
theorem N0 (n:Nat):kE TZp Tryz.f109 (DX.e n) DX.ws:=L1.ok Tryz.f109 DX n C90 (dr:=PE) (hT:=λm _=>.m1 (K90 m))
theorem Gm (n:Nat):aP TZp (Va n):=bE Tryz.f109 (C90 n) (ll:=[DX.e n]) (dr:=PE) (hT:=⟨.nil,K90 n,.nil,(.cc (N0 n) .nil),.nil⟩)
abbrev C91 (n:Nat):List bz:=Va n::C90 n
theorem K91 (n:Nat):aJ TZp (C91 n):=.cons (Gm n) (K90 n)
structure bg where
 ep:Option Addr->Int->Sl->Option Addr->Int->Sl->Int->Int->M Int
 eM:Option Addr->Int->Sl->M Int
def lB (G:bg)(n:Nat)(a0:Option Addr)(a1:Int)(a2:Sl)(a3:Option Addr)(a4:Int)(a5:Sl)(a6 a7:Int):M Int:=if decide (a7<a6) then sh (av a5 a7 1) λx0=>sh (aq li x0) λ(x1:Int)=>sh (nn a3) λx2=>sh (aq li (x2.plus 0)) λ(x3:Int)=>if decide (x3=10) then sh (nn a3) λx4=>sh (aq .sl (x4.plus 3)) λ(x5:Sl)=>sh (av x5 a7 1) λx6=>sh (aq li x6) λ(x7:Int)=>sh (G.eM a0 x7 a2) λx8=>sh (G.eM a0 x1 a2) λx9=>G.ep a0 a1 a2 a3 (i64.wrap (i64.wrap (a4+i64.wrap (1+x8))+x9)) a5 a6 (i64.wrap (a7+1)) else sh (G.eM a0 x1 a2) λx4=>G.ep a0 a1 a2 a3 (i64.wrap (a4+x4)) a5 a6 (i64.wrap (a7+1)) else AI a4
def dG (G:bg)(n:Nat)(a0:Option Addr)(a1:Int)(a2:Sl)(a3:Option Addr)(a4:Int):M Int:=sh (nn a3) λx0=>sh (aq .sl (x0.plus 4)) λ(x1:Sl)=>sh (G.ep a0 a1 a2 a3 a4 x1 (↑x1.len:Int) 0) λx2=>sh (av a2 a1 1) λx3=>sh (bG x3 [vi (if 65537<x2 then 65537 else x2)]) λx4=>sh (av a2 a1 1) λx5=>sh (aq li x5) λ(x6:Int)=>AI x6
def lC (G:bg)(n:Nat)(a0:Option Addr)(a1:Int)(a2:Sl)(a3:Option Addr)(a4:Int):M Int:=if decide (a4=11) then sh (nn a3) λx0=>sh (aq .str (x0.plus 1)) λ(x1:ByteArray)=>dG G n a0 a1 a2 a3 (i64.wrap (3+(↑(ByteArray.size x1):Int))) else sh (ud n a3) λx0=>dG G n a0 a1 a2 a3 (↑(ByteArray.size x0):Int)
def nG (G:bg)(n:Nat)(a0:Option Addr)(a1:Int)(a2:Sl):M Int:=sh (av a2 a1 1) λx0=>sh (aq li x0) λ(x1:Int)=>if decide (0<=x1) then sh (av a2 a1 1) λx2=>sh (aq li x2) λ(x3:Int)=>AI x3 else sh (nn a0) λx2=>sh (aq .sl ((x2.plus 0).plus 0)) λ(x3:Sl)=>sh (av x3 a1 5) λx4=>sh (nn (some x4)) λx5=>sh (aq li (x5.plus 0)) λ(x6:Int)=>if decide (x6=9) then sh (nn (some x4)) λx7=>sh (aq .sl (x7.plus 4)) λ(x8:Sl)=>dG G n a0 a1 a2 (some x4) (i64.wrap (2+if 0<i64.wrap ((↑x8.len:Int)-1) then i64.wrap ((↑x8.len:Int)-1) else 0)) else if decide (x6=10) then sh (nn (some x4)) λx7=>sh (aq .sl (x7.plus 4)) λ(x8:Sl)=>dG G n a0 a1 a2 (some x4) (i64.wrap (2+if 0<i64.wrap ((↑x8.len:Int)-1) then i64.wrap ((↑x8.len:Int)-1) else 0)) else lC G n a0 a1 a2 (some x4) x6
def bg.at:Nat->bg|0=>⟨λ_ _ _ _ _ _ _ _=>AS,λ_ _ _=>AS⟩|n+1=>⟨lB (bg.at n) n,nG (bg.at n) n⟩
def ep (n:Nat):=(bg.at n).ep
def eM (n:Nat):=(bg.at n).eM
def xb (n:Nat):=lC (bg.at n) n
def xc (n:Nat):=dG (bg.at n) n
abbrev Vb (n:Nat):bz:=⟨79,[tA,aB,cJ],[aB],λx=>eM n x.1 x.2.1 x.2.2⟩
abbrev I8:L1:=⟨[0,1,0,1,1,1,1,1],[(0,tA),(1,aB),(2,cJ),(7,tA),(8,aB),(56,cJ),(57,aB),(58,aB)],[(8,aB)],[8,9,10]++List.range' 58 30,1,λn x=>ep n x.1 x.2.1 x.2.2.1 x.2.2.2.1 x.2.2.2.2.1 x.2.2.2.2.2.1 x.2.2.2.2.2.2.1 x.2.2.2.2.2.2.2⟩
abbrev C92 (n:Nat):List bz:=Vb n::C91 n
abbrev abW (n:Nat):List (gj Int):=[⟨[0,1,1,0,1,0,1,1,1,1],[.code [1,1,1,0,1,0,1,1,1,1],.ar 0,.code [1,1,1,1,1]],[(0,tA),(1,aB),(2,cJ),(7,tA),(30,aB)],λx=>xb n x.1 x.2.1 x.2.2.1 x.2.2.2.1 x.2.2.2.2⟩, ⟨[0,0,1,1,1,1,1],[.code [1,0,1,1,1,1,1],.code [1,1,1,1,1,1]],[(0,tA),(1,aB),(2,cJ),(7,tA),(8,aB)],λx=>xc n x.1 x.2.1 x.2.2.1 x.2.2.2.1 x.2.2.2.2⟩]
def j9 (n:Nat):Prop:=aP TZp (Vb n)
theorem Vc (n:Nat)(H:j9 n):aJ TZp (C92 n):=.cons H (K91 n)
theorem RZ (n:Nat)(H:∀m,m<n->j9 m):kE TZp Tryz.f79 (I8.e n) I8.ws:=L1.ok Tryz.f79 I8 n C92 (hT:=λm hm=>.m1 (Vc m (H m hm)))
theorem ue (n:Nat)(H:∀m,m<n+1->j9 m):aP TZp (Vb (n+1)):=bE Tryz.f79 (C92 n) (ll:=[I8.e n]) (js:=abW n) (hT:=⟨.nil,Vc n (H n (aar n)),.nil,(.cc (RZ n (λk hk=>H k (abX hk))) .nil),(.cc (.cc .nil))⟩)
theorem u6:∀n m,m<n->j9 m:=by
 intro n
 induction n with
 |zero=>intro m hm;exact absurd hm (afv m)
 |succ n ih=>
  intro m hm;cases m with
  |zero=>exact fX (fn:=Tryz.f79) (by kernel_rfl) (by kernel_rfl) (by kernel_rfl) (λ_=>rfl)
  |succ k=>exact ue k λm hm=>ih m (by omega)
theorem K92 (n:Nat):aJ TZp (C92 n):=Vc n (u6 (n+1) n (aar n))
def eB (n:Nat)(a0:Option Addr)(a1:ByteArray):M (Int×Value):=sh (ff n a0) λx0=>sh (nn a0) λx1=>sh (aq .sl (x1.plus 1)) λ(x2:Sl)=>sh (app false x2 1 gC a1.size (bR a1)) λx3=>sh (nn a0) λx4=>sh (bG (x4.plus 1) [aE x3]) λx5=>AI ((↑a1.size:Int),Value.nilIface)
abbrev Ve (n:Nat):bz:=⟨110,[tA,oe],[aB,rW],λx=>eB n x.1 x.2⟩
theorem ru (n:Nat):aP TZp (Ve n):=bE Tryz.f110 (C92 n) (hT:=.m1 (K92 n))
abbrev C93 (n:Nat):List bz:=Ve n::C92 n
theorem K93 (n:Nat):aJ TZp (C93 n):=.cons (ru n) (K92 n)
structure aV where
 eN:Option Addr->Option Addr->Option Addr->ByteArray->Sl->Int->Int->M Unit
 fA:Option Addr->Option Addr->Int->M Unit
def fh (G:aV)(n:Nat)(a0 a1 a2:Option Addr)(a3:ByteArray)(a4:Int)(a5:Sl)(a6 a7:Int):M Unit:=sh (nn a2) λx0=>sh (aq .sl (x0.plus 4)) λ(x1:Sl)=>sh (av x1 a4 1) λx2=>sh (aq li x2) λ(x3:Int)=>sh (G.fA a0 a1 x3) λx4=>G.eN a0 a1 a2 a3 a5 a6 (i64.wrap (a7+1))
def fi (G:aV)(n:Nat)(a0 a1 a2:Option Addr)(a3:ByteArray)(a4:Int)(a5:Sl)(a6 a7:Int):M Unit:=sh (nn a2) λx0=>sh (aq li (x0.plus 0)) λ(x1:Int)=>if decide (x1=10) then sh (nn a2) λx2=>sh (aq .sl (x2.plus 3)) λ(x3:Sl)=>sh (av x3 a4 1) λx4=>sh (aq li x4) λ(x5:Int)=>sh (G.fA a0 a1 x5) λx6=>sh (aG n a1 61) λx7=>fh G n a0 a1 a2 a3 a4 a5 a6 a7 else fh G n a0 a1 a2 a3 a4 a5 a6 a7
def mg (G:aV)(n:Nat)(a0 a1 a2:Option Addr)(a3:ByteArray)(a4:Sl)(a5 a6:Int):M Unit:=if decide (a6<a5) then sh (av a4 a6 1) λx0=>sh (aq li x0) λ(x1:Int)=>if decide (0<a6) then sh (aG n a1 44) λx2=>fi G n a0 a1 a2 a3 x1 a4 a5 a6 else fi G n a0 a1 a2 a3 x1 a4 a5 a6 else AI ()
def eY (G:aV)(n:Nat)(a0 a1:Option Addr)(a2:Int)(a3:Option Addr)(a4:ByteArray):M Unit:=sh (jd a4 0) λx0=>sh (aG n a1 (↑x0.toNat:Int)) λx1=>sh (dX n a0 a2) λx2=>sh (G.eN a0 a1 a3 a4 x2 (↑x2.len:Int) 0) λx3=>sh (jd a4 1) λx4=>sh (aG n a1 (↑x4.toNat:Int)) λx5=>AI ()
def ot (G:aV)(n:Nat)(a0 a1:Option Addr)(a2:Int):M Unit:=sh (nn a0) λx0=>sh (aq .sl ((x0.plus 0).plus 0)) λ(x1:Sl)=>sh (av x1 a2 5) λx2=>sh (nn (some x2)) λx3=>sh (aq li (x3.plus 0)) λ(x4:Int)=>if decide (x4=11) then sh (nn (some x2)) λx5=>sh (aq .str (x5.plus 1)) λ(x6:ByteArray)=>sh (kF (ofBytes [33]) x6) λx7=>sh (kF x7 (ofBytes [40])) λx8=>sh (eB n a1 x8) λx9=>sh (nn (some x2)) λx10=>sh (aq .sl (x10.plus 4)) λ(x11:Sl)=>sh (av x11 0 1) λx12=>sh (aq li x12) λ(x13:Int)=>sh (G.fA a0 a1 x13) λiK=>sh (aG n a1 41) λx15=>AI () else sh (nn (some x2)) λx5=>sh (aq li (x5.plus 0)) λ(x6:Int)=>if decide (x6<9) then sh (ud n (some x2)) λx7=>sh (eB n a1 x7) λx8=>AI () else sh (nn (some x2)) λx7=>sh (aq li (x7.plus 0)) λ(x8:Int)=>if decide (x8=10) then sh (nn (some x2)) λx9=>sh (aq .bool (x9.plus 2)) λ(x10:Bool)=>if x10 then eY G n a0 a1 a2 (some x2) (ofBytes [60,62]) else eY G n a0 a1 a2 (some x2) (ofBytes [123,125]) else eY G n a0 a1 a2 (some x2) (ofBytes [91,93])
def aV.at:Nat->aV|0=>⟨λ_ _ _ _ _ _ _=>AS,λ_ _ _=>AS⟩|n+1=>⟨mg (aV.at n) n,ot (aV.at n) n⟩
def eN (n:Nat):=(aV.at n).eN
def fA (n:Nat):=(aV.at n).fA
def vv (n:Nat):=fi (aV.at n) n
def vw (n:Nat):=fh (aV.at n) n
def yd (n:Nat):=eY (aV.at n) n
abbrev Vf (n:Nat):bz:=⟨80,[tA,tA,aB],[],λx=>fA n x.1 x.2.1 x.2.2⟩
abbrev I9:L1:=⟨[0,1,0,1,1,1,1,1],[(0,tA),(1,tA),(6,tA),(7,oe),(67,cJ),(68,aB),(69,aB)],[],[8,9]++List.range' 69 37,1,λn x=>eN n x.1 x.2.1 x.2.2.1 x.2.2.2.1 x.2.2.2.2.1 x.2.2.2.2.2.1 x.2.2.2.2.2.2⟩
abbrev C94 (n:Nat):List bz:=Vf n::C93 n
abbrev R4 (n:Nat):List (gj Unit):=[⟨[0,0,1,1,0,0,1,1,0,0,1,0,1,1,1,1,1],[.code [1,0,1,1,0,0,1,1,0,0,1,0,1,1,1,1,1],.code [1,1,1,0,0,1,1,0,0,1,0,1,1,1,1,1],.ar 2,.code [1,1,1,0,0,1,0,1,1,1,1,1]],[(0,tA),(1,tA),(6,tA),(7,oe),(9,aB),(67,cJ),(68,aB),(69,aB)],λx=>vv n x.1 x.2.1 x.2.2.1 x.2.2.2.1 x.2.2.2.2.1 x.2.2.2.2.2.1 x.2.2.2.2.2.2.1 x.2.2.2.2.2.2.2⟩, ⟨[1,1,1,0,0,1,1,0,0,1,0,1,1,1,1,1],[.ar 2,.code [1,1,1,0,0,1,0,1,1,1,1,1]],[(0,tA),(1,tA),(6,tA),(7,oe),(9,aB),(67,cJ),(68,aB),(69,aB)],λx=>vw n x.1 x.2.1 x.2.2.1 x.2.2.2.1 x.2.2.2.2.1 x.2.2.2.2.2.1 x.2.2.2.2.2.2.1 x.2.2.2.2.2.2.2⟩]
abbrev abY (n:Nat):List (gj Unit):=[⟨[0,1,1,1,1],[.code [1,1,1,1,1]],[(0,tA),(1,tA),(2,aB),(6,tA),(7,oe)],λx=>yd n x.1 x.2.1 x.2.2.1 x.2.2.2.1 x.2.2.2.2⟩]
def kI (n:Nat):Prop:=aP TZp (Vf n)
theorem Vg (n:Nat)(H:kI n):aJ TZp (C94 n):=.cons H (K93 n)
theorem R5 (n:Nat)(H:∀m,m<n->kI m):kE TZp Tryz.f80 (I9.e n) I9.ws:=L1.ok Tryz.f80 I9 n C94 (jt:=R4) (hT:=λm hm=>⟨.nil,Vg m (H m hm),.nil,.nil,(.cc (.cc .nil))⟩)
theorem uu (n:Nat)(H:∀m,m<n+1->kI m):aP TZp (Vf (n+1)):=bE Tryz.f80 (C94 n) (ll:=[I9.e n]) (js:=abY n) (hT:=⟨.nil,Vg n (H n (aar n)),.nil,(.cc (R5 n (λk hk=>H k (abX hk))) .nil),(.cc .nil)⟩)
theorem vx:∀n m,m<n->kI m:=by
 intro n
 induction n with
 |zero=>intro m hm;exact absurd hm (afv m)
 |succ n ih=>
  intro m hm;cases m with
  |zero=>exact fX (fn:=Tryz.f80) (by kernel_rfl) (by kernel_rfl) (by kernel_rfl) (λ_=>rfl)
  |succ k=>exact uu k λm hm=>ih m (by omega)
theorem K94 (n:Nat):aJ TZp (C94 n):=Vg n (vx (n+1) n (aar n))
def uf (G:Addr->Option Addr->Sl->Int->Int->M Unit)(n:Nat)(a0:Addr)(a1:Option Addr)(a2:Sl)(a3 a4:Int):M Unit:=if decide (a4<a3) then sh (av a2 a4 1) λx0=>sh (bG x0 [vi (-1)]) λx1=>G a0 a1 a2 a3 (i64.wrap (a4+1)) else AI ()
def n8:Nat->Addr->Option Addr->Sl->Int->Int->M Unit|0=>λ_ _ _ _ _=>AS|n+1=>uf (n8 n) n
theorem AZ (n:Nat):n8 (n+1)=uf (n8 n) n:=rfl
def vy (n:Nat)(a0:Sl×Int):M (ByteArray×Int):=sh (aO none aj [aE a0.1,vi a0.2]) λx0=>sh (aI [.sl,li] (ak x0)) λ(x1:Sl×Int)=>sh (rP n (x1.1,x1.2)) λx2=>if !decide (x2=0) then AI ((ofBytes []),x2) else sh (aI [.sl,li] (ak x0)) λ(x3:Sl×Int)=>sh (xW n (x3.1,x3.2)) λx4=>sh (aq .sl ((ak x0).plus 0)) λ(x5:Sl)=>sh (vc none au [vi 0] (↑x5.len:Int) (↑x5.len:Int)) λx6=>sh (n8 n (ak x0) x4 x6 (↑x6.len:Int) 0) λx7=>sh (aq li ((ak x0).plus 1)) λ(x8:Int)=>sh (eM n x4 x8 x6) λx9=>if decide (65536<x9) then AI ((ofBytes []),6) else sh (aO none fq [.pointer none,aU]) λx10=>sh (aq li ((ak x0).plus 1)) λ(x11:Int)=>sh (fA n x4 (some (ak x10)) x11) λx12=>sh (gv n (some (ak x10))) λx13=>AI (x13,0)
abbrev aaA (n:Nat):bz:=⟨50,[.agg [.sl,.int .i64]],[oe,aB],λx=>vy n x⟩
abbrev Ja:L1:=⟨[0,1,0,1,1,1,1],[(1,aK),(5,tA),(6,cJ),(21,aB),(22,aB)],[],[7]++List.range' 22 7,0,λn x=>n8 n x.1 x.2.1 x.2.2.1 x.2.2.2.1 x.2.2.2.2⟩
theorem R6 (n:Nat):kE TZp Tryz.f50 (Ja.e n) Ja.ws:=L1.ok Tryz.f50 Ja n C94 (hT:=λm _=>.m1 (K94 m))
theorem Jb (n:Nat):aP TZp (aaA n):=bE Tryz.f50 (C94 n) (ll:=[Ja.e n]) (hT:=⟨.nil,K94 n,.nil,(.cc (R6 n) .nil),.nil⟩)
abbrev C95 (n:Nat):List bz:=aaA n::C94 n
theorem K95 (n:Nat):aJ TZp (C95 n):=.cons (Jb n) (K94 n)
def sO (G:Addr->Sl->Sl->Int->Int->M Sl)(n:Nat)(a0:Addr)(a1 a2:Sl)(a3 a4:Int):M Sl:=if decide (a4<a3) then sh (av a2 a4 1) λx0=>sh (aq li x0) λ(x1:Int)=>sh (aI [.sl,li] a0) λ(x2:Sl×Int)=>sh (rq n (x2.1,x2.2) x1) λx3=>sh (aO none aj [aU,vi 0]) λx4=>sh (bG (ak x4) [aE x3.1.1,vi x3.1.2]) λx5=>sh (aI [.sl,li] (ak x4)) λ(x6:Sl×Int)=>sh (vy n (x6.1,x6.2)) λx7=>sh (app false a1 1 dT 1 [.string x7.1]) λx8=>G a0 x8 a2 a3 (i64.wrap (a4+1)) else AI a1
def mG:Nat->Addr->Sl->Sl->Int->Int->M Sl|0=>λ_ _ _ _ _=>AS|n+1=>sO (mG n) n
theorem Ae (n:Nat):mG (n+1)=sO (mG n) n:=rfl
def ug (n:Nat)(a0:Sl×Int)(a1:Int×ByteArray×Bool×Sl×Sl):M Sl:=sh (aO none aj [aE a0.1,vi a0.2]) λx0=>sh (aO none aw [vi a1.1,.string a1.2.1,.bool a1.2.2.1,aE a1.2.2.2.1,aE a1.2.2.2.2]) λx1=>sh (aq .sl ((ak x1).plus 3)) λ(x2:Sl)=>sh (mG n (ak x0) mX x2 (↑x2.len:Int) 0) λx3=>AI x3
abbrev aaB (n:Nat):bz:=⟨36,[.agg [.sl,.int .i64],.agg [.int .i64,.str,.bool,.sl,.sl]],[cJ],λx=>ug n x.1 x.2⟩
abbrev Jc:L1:=⟨[0,1,0,1,1],[(2,aK),(5,cJ),(13,cJ),(14,aB),(15,aB)],[(5,cJ)],[5]++List.range' 7 5++List.range' 15 20,0,λn x=>mG n x.1 x.2.1 x.2.2.1 x.2.2.2.1 x.2.2.2.2⟩
theorem R7 (n:Nat):kE TZp Tryz.f36 (Jc.e n) Jc.ws:=L1.ok Tryz.f36 Jc n C95 (hT:=λm _=>.m1 (K95 m))
theorem Gn (n:Nat):aP TZp (aaB n):=bE Tryz.f36 (C95 n) (ll:=[Jc.e n]) (hT:=⟨.nil,K95 n,.nil,(.cc (R7 n) .nil),.nil⟩)
abbrev C96 (n:Nat):List bz:=aaB n::C95 n
theorem K96 (n:Nat):aJ TZp (C96 n):=.cons (Gn n) (K95 n)
def rv (G:Sl->Sl->Int->Int->M (Unit⊕(Sl×Bool)))(n:Nat)(a0 a1:Sl)(a2 a3:Int):M (Unit⊕(Sl×Bool)):=if decide (a3<a2) then sh (av a0 a3 1) λx0=>sh (av a1 a3 1) λx1=>sh (aq .str x0) λ(x2:ByteArray)=>sh (aq .str x1) λ(x3:ByteArray)=>if !mI x2 x3 then AI (Sum.inr (mX,false)) else G a0 a1 a2 (i64.wrap (a3+1)) else AI (Sum.inl ())
def lD:Nat->Sl->Sl->Int->Int->M (Unit⊕(Sl×Bool))|0=>λ_ _ _ _=>AS|n+1=>rv (lD n) n
theorem y5 (n:Nat):lD (n+1)=rv (lD n) n:=rfl
def uh (n:Nat)(a0 a1 a2 a3:Addr):M (Sl×Bool):=sh (aI [.sl,li] a0) λ(x0:Sl×Int)=>sh (aI [li,.str,.bool,.sl,.sl] a2) λ(x1:Int×ByteArray×Bool×Sl×Sl)=>sh (aI [.sl,li] a1) λ(x2:Sl×Int)=>sh (aI [li,.str,.bool,.sl,.sl] a3) λ(x3:Int×ByteArray×Bool×Sl×Sl)=>sh (kG [some a1,some a3] (ug n (x0.1,x0.2) (x1.1,x1.2.1,x1.2.2.1,x1.2.2.2.1,x1.2.2.2.2))) λx4=>sh (ug n (x2.1,x2.2) (x3.1,x3.2.1,x3.2.2.1,x3.2.2.2.1,x3.2.2.2.2)) λx5=>sh (lD n x4 x5 (↑x4.len:Int) 0) (cw (λx6=>AI (x4,true)) (λx6=>AI (x6.1,x6.2)))
def uK (n:Nat)(a0 a1:Sl×Int)(a2:Int×Int):M (Sl×Bool):=sh (aO none aj [aE a0.1,vi a0.2]) λx0=>sh (aO none aj [aE a1.1,vi a1.2]) λx1=>sh (aO none cz [vi a2.1,vi a2.2]) λx2=>sh (eS 16) λx3=>sh (aq .sl ((ak x0).plus 0)) λ(x4:Sl)=>sh (aq li ((ak x2).plus 0)) λ(x5:Int)=>sh (av x4 x5 5) λx6=>sh (aI [li,.str,.bool,.sl,.sl] x6) λ(x7:Int×ByteArray×Bool×Sl×Sl)=>sh (aq .sl ((ak x1).plus 0)) λ(x8:Sl)=>sh (aq li ((ak x2).plus 1)) λ(x9:Int)=>sh (av x8 x9 5) λx10=>sh (aI [li,.str,.bool,.sl,.sl] x10) λ(x11:Int×ByteArray×Bool×Sl×Sl)=>sh (aO (some (x3+12)) aw [vi 0,.string (ofBytes []),.bool false,aU,aU]) λx12=>sh (aO (some (x3+13)) aw [vi 0,.string (ofBytes []),.bool false,aU,aU]) λx13=>sh (kG [some ((ak x1).plus 0),some ((ak x2).plus 1),some x10] (bG (ak x12) [vi x7.1,.string x7.2.1,.bool x7.2.2.1,aE x7.2.2.2.1,aE x7.2.2.2.2])) λiK=>sh (bG (ak x13) [vi x11.1,.string x11.2.1,.bool x11.2.2.1,aE x11.2.2.2.1,aE x11.2.2.2.2]) λx15=>sh (aq li ((ak x12).plus 0)) λ(po:Int)=>sh (aq li ((ak x13).plus 0)) λ(x17:Int)=>if !decide (po=x17) then AI (mX,false) else sh (aq .str ((ak x12).plus 1)) λ(qH:ByteArray)=>sh (aq .str ((ak x13).plus 1)) λ(x19:ByteArray)=>if !mI qH x19 then AI (mX,false) else sh (aq .bool ((ak x12).plus 2)) λ(x20:Bool)=>sh (aq .bool ((ak x13).plus 2)) λ(x21:Bool)=>if !x20==x21 then AI (mX,false) else sh (aq .sl ((ak x12).plus 4)) λ(x22:Sl)=>sh (aq .sl ((ak x13).plus 4)) λ(x23:Sl)=>if !decide ((↑x22.len:Int)=(↑x23.len:Int)) then AI (mX,false) else uh n (ak x0) (ak x1) (ak x12) (ak x13)
abbrev aaC (n:Nat):bz:=⟨26,[.agg [.sl,.int .i64],.agg [.sl,.int .i64],.agg [.int .i64,.int .i64]],[cJ,jz],λx=>uK n x.1 x.2.1 x.2.2⟩
abbrev Jd:L2:=⟨[0,1,0,1,1,1,1],[(10,cJ),(11,cJ),(60,aB),(61,aB)],[],[(6,cJ),(7,jz)],[6,7,12]++List.range' 61 13,0,.ret,λn x=>lD n x.1 x.2.1 x.2.2.1 x.2.2.2⟩
def Vh (i:Nat):Option (List (Nat×List Nat)):=cond (Nat.beq i 1) (some [(0,[]),(2,[]),(6,[]),(8,[]),(1,[]),(3,[]),(4,[]),(5,[]),(7,[]),(9,[]),(10,[]),(11,[]),(12,[]),(13,[]),(14,[7,9,11]),(15,[])]) (cond (Nat.beq i 4) (some [(0,[]),(1,[]),(3,[]),(4,[]),(2,[3,4]),(5,[]),(6,[]),(7,[])]) (cond (Nat.beq i 8) (some [(0,[]),(1,[]),(2,[]),(4,[]),(5,[]),(6,[]),(3,[]),(7,[]),(8,[])]) (none)))
abbrev abZ (n:Nat):List (gj (Sl×Bool)):=[⟨[0,1,1,1],[.code [1,1,1,1]],[(3,aK),(4,aK),(8,aK),(9,aK)],λx=>uh n x.1 x.2.1 x.2.2.1 x.2.2.2⟩]
theorem R8 (n:Nat):kE TZp Tryz.f26 (Jd.e n) Jd.ws:=L2.ok Tryz.f26 Jd n C96 (dr:=Vh) (hT:=λm _=>.m1 (K96 m))
theorem Fe (n:Nat):aP TZp (aaC n):=bE Tryz.f26 (C96 n) (ll:=[Jd.e n]) (dr:=Vh) (js:=abZ n) (hT:=⟨.nil,K96 n,.nil,(.cc (R8 n) .nil),(.cc .nil)⟩)
abbrev C97 (n:Nat):List bz:=aaC n::C96 n
theorem K97 (n:Nat):aJ TZp (C97 n):=.cons (Fe n) (K96 n)
structure bw where
 ic:Sl->Addr->Addr->Addr->Sl->Sl->Int->Int->M (Unit⊕(Sl×Bool))
 gY:(Int×Int)->Sl->Addr->Addr->Addr->Addr->M (Sl×Bool)
def nH (G:bw)(n:Nat)(x:Value)(a0:Int×Int)(a1:Sl):M (Sl×Bool):=if qw nO x then sh (oX [aK,aK,aK,aK] x) λ(c:Addr×Addr×Addr×Addr)=>G.gY a0 a1 c.1 c.2.1 c.2.2.1 c.2.2.2 else AS
def gw (G:bw)(n:Nat)(a0:Sl)(a1 a2 a3:Addr)(a4:Sl)(a5 a6:Int)(a7:Addr)(a8:Sl)(a9 a10:Int):M (Unit⊕(Sl×Bool)):=sh (aq .raw a2) λ(x0:Value)=>sh (aq .sl (a1.plus 0)) λ(x1:Sl)=>sh (aq li (a3.plus 1)) λ(x2:Int)=>sh (av x1 x2 5) λx3=>sh (aq .sl (x3.plus 4)) λ(x4:Sl)=>sh (av x4 a5 1) λx5=>sh (aq li x5) λ(x6:Int)=>sh (aI [li,.str] a7) λ(x7:Int×ByteArray)=>sh (kG [some a2,some (a1.plus 0),some (a3.plus 1),some (x3.plus 4),some x5] (app false a0 2 aC 1 [vi x7.1,.string x7.2])) λx8=>sh (nH G n x0 (a6,x6) x8) λx9=>if x9.2 then AI (Sum.inr (x9.1,true)) else G.ic a0 a1 a2 a3 a4 a8 a9 (i64.wrap (a10+1))
def ou (G:bw)(n:Nat)(a0:Sl)(a1 a2 a3:Addr)(a4 a5:Sl)(a6 a7:Int):M (Unit⊕(Sl×Bool)):=if decide (a7<a6) then sh (av a5 a7 1) λx0=>sh (aq li x0) λ(x1:Int)=>sh (aO none aC [vi 0,.string (ofBytes [])]) λx2=>sh (bG (ak x2) [vi a7,.string (ofBytes [])]) λx3=>if decide (0<(↑a4.len:Int)) then sh (av a4 a7 1) λx4=>sh (aq .str x4) λ(x5:ByteArray)=>sh (bG (ak x2) [vi 0,.string x5]) λx6=>gw G n a0 a1 a2 a3 a4 a7 x1 (ak x2) a5 a6 a7 else gw G n a0 a1 a2 a3 a4 a7 x1 (ak x2) a5 a6 a7 else AI (Sum.inl ())
def ry (G:bw)(n:Nat)(a0:Int×Int)(a1:Sl)(a2 a3 a4 a5:Addr):M (Sl×Bool):=sh (aO none cz [vi a0.1,vi a0.2]) λx0=>sh (aq .mp a2) λ(x1:Option Nat)=>sh (aI [li,li] (ak x0)) λ(x2:Int×Int)=>sh (wN cz (Ty.one .bool) false x1 (Value.agg #[vi x2.1,vi x2.2])) λ(x3:Bool×Bool)=>if x3.2 then AI (mX,false) else sh (aq .mp a2) λ(x4:Option Nat)=>sh (aI [li,li] (ak x0)) λ(x5:Int×Int)=>sh (Ch cz x4 (Value.agg #[vi x5.1,vi x5.2]) (Value.bool true)) λx6=>sh (aI [.sl,li] a3) λ(x7:Sl×Int)=>sh (aI [.sl,li] a4) λ(x8:Sl×Int)=>sh (aI [li,li] (ak x0)) λ(x9:Int×Int)=>sh (uK n (x7.1,x7.2) (x8.1,x8.2) (x9.1,x9.2)) λx10=>if !x10.2 then sh (aO none aC []) λx11=>sh (Mg a1 2) λx12=>sh (app false { a:=some (ak x11),len:=0,cap:=1 } 2 42 a1.len x12) λx13=>AI (x13,true) else sh (aq .sl (a3.plus 0)) λ(x11:Sl)=>sh (aq li ((ak x0).plus 0)) λ(x12:Int)=>sh (av x11 x12 5) λx13=>sh (aq .sl (x13.plus 4)) λ(iK:Sl)=>sh (G.ic a1 a4 a5 (ak x0) x10.1 iK (↑iK.len:Int) 0) (cw (λx15=>AI (mX,false)) (λx15=>AI (x15.1,x15.2)))
def bw.at:Nat->bw|0=>⟨λ_ _ _ _ _ _ _ _=>AS,λ_ _ _ _ _ _=>AS⟩|n+1=>⟨ou (bw.at n) n,ry (bw.at n) n⟩
def ic (n:Nat):=(bw.at n).ic
def gY (n:Nat):=(bw.at n).gY
def Ag (n:Nat):=nH (bw.at n) n
def ye (n:Nat):=gw (bw.at n) n
abbrev PF (n:Nat):bz:=⟨25,[.agg [.int .i64,.int .i64],cJ,aK,aK,aK,aK],[cJ,jz],λx=>gY n x.1 x.2.1 x.2.2.1 x.2.2.2.1 x.2.2.2.2.1 x.2.2.2.2.2⟩
abbrev Je:L2:=⟨[0,1,0,1,1,1,1,1],[(1,cJ),(4,aK),(5,aK),(6,aK),(10,cJ),(40,cJ),(41,aB),(42,aB)],[],[(8,cJ),(9,jz)],[8,9]++List.range' 12 5++List.range' 42 39,0,.ret,λn x=>ic n x.1 x.2.1 x.2.2.1 x.2.2.2.1 x.2.2.2.2.1 x.2.2.2.2.2.1 x.2.2.2.2.2.2.1 x.2.2.2.2.2.2.2⟩
abbrev C98 (n:Nat):List bz:=PF n::C97 n
abbrev N4 (n:Nat):List jx:=[⟨58,[.agg [.int .i64,.int .i64],cJ],[cJ,jz],λx a=>Ag n x a.1 a.2⟩]
def Vi (i:Nat):Option (List (Nat×List Nat)):=cond (Nat.beq i 13) (some [(1,[]),(2,[]),(4,[]),(9,[]),(13,[]),(0,[]),(3,[]),(5,[]),(6,[]),(7,[]),(8,[]),(10,[]),(11,[]),(12,[]),(14,[]),(15,[]),(16,[0,3,5,8,11]),(17,[]),(18,[]),(19,[]),(20,[]),(21,[]),(22,[])]) (none)
abbrev R9 (n:Nat):List (gj (Unit⊕(Sl×Bool))):=[⟨[0,1,1,1,0,0,1,1,0,0,1,0,1,1,1,1,1],[.code [1,1,1,1,0,0,1,1,0,0,1,0,1,1,1,1,1],.ar 1,.code [1,1,1,0,0,1,0,1,1,1,1,1]],[(1,cJ),(4,aK),(5,aK),(6,aK),(10,cJ),(12,aB),(13,aB),(14,aK),(40,cJ),(41,aB),(42,aB)],λx=>ye n x.1 x.2.1 x.2.2.1 x.2.2.2.1 x.2.2.2.2.1 x.2.2.2.2.2.1 x.2.2.2.2.2.2.1 x.2.2.2.2.2.2.2.1 x.2.2.2.2.2.2.2.2.1 x.2.2.2.2.2.2.2.2.2.1 x.2.2.2.2.2.2.2.2.2.2⟩]
def lE (n:Nat):Prop:=aP TZp (PF n)
theorem Vj (n:Nat)(H:lE n):aJ TZp (C98 n):=.cons H (K97 n)
theorem Vk (n:Nat)(H:lE n):oY TZp (N4 n):=.cons (dq (l:=[⟨25,[aK,aK,aK,aK],λa c=>gY n a.1 a.2 c.1 c.2.1 c.2.2.1 c.2.2.2⟩]) (.cons (λa c=>aT (by kernel_rfl) ((H) (a.1,a.2,c.1,c.2.1,c.2.2.1,c.2.2.2))) .nil) (λx a=>by kernel_rfl)) .nil
theorem Sa (n:Nat)(H:∀m,m<n->lE m):kE TZp Tryz.f25 (Je.e n) Je.ws:=L2.ok Tryz.f25 Je n C98 (dt:=N4) (dr:=Vi) (jt:=R9) (hT:=λm hm=>⟨.nil,Vj m (H m hm),(Vk m (H m hm)),.nil,(.cc .nil)⟩)
theorem wB (n:Nat)(H:∀m,m<n+1->lE m):aP TZp (PF (n+1)):=bE Tryz.f25 (C98 n) (dl:=N4 n) (ll:=[Je.e n]) (dr:=Vi) (hT:=⟨.nil,Vj n (H n (aar n)),(Vk n (H n (aar n))),(.cc (Sa n (λk hk=>H k (abX hk))) .nil),.nil⟩)
theorem sd:∀n m,m<n->lE m:=by
 intro n
 induction n with
 |zero=>intro m hm;exact absurd hm (afv m)
 |succ n ih=>
  intro m hm;cases m with
  |zero=>exact fX (fn:=Tryz.f25) (by kernel_rfl) (by kernel_rfl) (by kernel_rfl) (λ_=>rfl)
  |succ k=>exact wB k λm hm=>ih m (by omega)
theorem A0 (n:Nat):aP TZp (PF n):=(sd (n+1) n (aar n))
theorem K98 (n:Nat):aJ TZp (C98 n):=Vj n (sd (n+1) n (aar n))
def rz (n:Nat)(x:Value)(a0:Int×Int)(a1:Sl):M (Sl×Bool):=if qw nO x then sh (oX [aK,aK,aK,aK] x) λ(c:Addr×Addr×Addr×Addr)=>gY n a0 a1 c.1 c.2.1 c.2.2.1 c.2.2.2 else AS
def oU (n:Nat)(a0 a1:Addr):M (Sl×Bool×Bool):=sh (At cz) λx0=>sh (aO none ns [.map none]) λx1=>sh (bG (ak x1) [.map (some x0)]) λx2=>sh (aO none eC [Value.nilFunc]) λx3=>sh (bG (ak x3) [.func (Fn.func nO) #[] #[.pointer (some (ak x1)),.pointer (some a0),.pointer (some a1),.pointer (some (ak x3))]]) λx4=>sh (aq .raw (ak x3)) λ(x5:Value)=>sh (aq li (a0.plus 1)) λ(x6:Int)=>sh (aq li (a1.plus 1)) λ(x7:Int)=>sh (rz n x5 (x6,x7) mX) λx8=>AI (x8.1,x8.2,true)
def n9 (n:Nat)(a0 a1:Sl×Int):M (Sl×Bool×Bool):=sh (aO none aj [aE a0.1,vi a0.2]) λx0=>sh (aO none aj [aE a1.1,vi a1.2]) λx1=>sh (aI [.sl,li] (ak x0)) λ(x2:Sl×Int)=>sh (ql n (x2.1,x2.2)) λx3=>sh (aO none aj [aU,vi 0]) λx4=>sh (bG (ak x4) [aE x3.1.1,vi x3.1.2]) λx5=>sh (aI [.sl,li] (ak x1)) λ(x6:Sl×Int)=>sh (ql n (x6.1,x6.2)) λx7=>sh (aO none aj [aU,vi 0]) λx8=>sh (bG (ak x8) [aE x7.1.1,vi x7.1.2]) λx9=>if !decide (x3.2=0) then AI (mX,false,false) else if !decide (x7.2=0) then AI (mX,false,false) else oU n (ak x4) (ak x8)
abbrev aaD (n:Nat):bz:=⟨18,[.agg [.sl,.int .i64],.agg [.sl,.int .i64]],[cJ,jz,jz],λx=>n9 n x.1 x.2⟩
abbrev Vl (n:Nat):List jx:=[⟨34,[.agg [.int .i64,.int .i64],cJ],[cJ,jz],λx a=>rz n x a.1 a.2⟩]
abbrev ab0 (n:Nat):List (gj (Sl×Bool×Bool)):=[⟨[0,1,1,1,1],[.code [1,1,1,1,1]],[(7,aK),(9,aK)],λx=>oU n x.1 x.2⟩]
theorem ab1 (n:Nat):oY TZp (Vl n):=.cons (dq (l:=[⟨25,[aK,aK,aK,aK],λa c=>gY n a.1 a.2 c.1 c.2.1 c.2.2.1 c.2.2.2⟩]) (.cons (λa c=>aT (by kernel_rfl) ((A0 n) (a.1,a.2,c.1,c.2.1,c.2.2.1,c.2.2.2))) .nil) (λx a=>by kernel_rfl)) .nil
theorem Dg (n:Nat):aP TZp (aaD n):=bE Tryz.f18 (C98 n) (dl:=Vl n) (js:=ab0 n) (hT:=⟨.nil,K98 n,(ab1 n),.nil,(.cc .nil)⟩)
abbrev C99 (n:Nat):List bz:=aaD n::C98 n
theorem K99 (n:Nat):aJ TZp (C99 n):=.cons (Dg n) (K98 n)
def fV (n:Nat)(a0 a1:Sl×Int):M Bool:=sh (aO none aj [aE a0.1,vi a0.2]) λx0=>sh (aO none aj [aE a1.1,vi a1.2]) λx1=>sh (aI [.sl,li] (ak x0)) λ(x2:Sl×Int)=>sh (aI [.sl,li] (ak x1)) λ(x3:Sl×Int)=>sh (n9 n (x2.1,x2.2) (x3.1,x3.2)) λx4=>if x4.2.2 then AI !x4.2.1 else AI false
abbrev aem (n:Nat):bz:=⟨7,[.agg [.sl,.int .i64],.agg [.sl,.int .i64]],[jz],λx=>fV n x.1 x.2⟩
theorem Ff (n:Nat):aP TZp (aem n):=bE Tryz.f7 (C99 n) (hT:=.m1 (K99 n))
abbrev ab2 (n:Nat):List bz:=aem n::C99 n
theorem aen (n:Nat):aJ TZp (ab2 n):=.cons (Ff n) (K99 n)
def se (n:Nat)(a0 a1:Sl×Int):M (Sl×Bool):=sh (aO none aj [aE a0.1,vi a0.2]) λx0=>sh (aO none aj [aE a1.1,vi a1.2]) λx1=>sh (aI [.sl,li] (ak x0)) λ(x2:Sl×Int)=>sh (aI [.sl,li] (ak x1)) λ(x3:Sl×Int)=>sh (n9 n (x2.1,x2.2) (x3.1,x3.2)) λx4=>AI (x4.1,x4.2.1)
abbrev aeo (n:Nat):bz:=⟨8,[.agg [.sl,.int .i64],.agg [.sl,.int .i64]],[cJ,jz],λx=>se n x.1 x.2⟩
theorem Fg (n:Nat):aP TZp (aeo n):=bE Tryz.f8 (ab2 n) (hT:=.m1 (aen n))
abbrev ab3 (n:Nat):List bz:=aeo n::ab2 n
theorem aep (n:Nat):aJ TZp (ab3 n):=.cons (Fg n) (aen n)
def dY (n:Nat)(a0:ByteArray):M (Int×ByteArray×Bool×Sl×Sl):=sh (aO none aw [vi 0,.string (ofBytes []),.bool false,aU,aU]) λx0=>sh (bG (ak x0) [vi 2,.string a0,.bool false,aU,aU]) λx1=>sh (aI [li,.str,.bool,.sl,.sl] (ak x0)) λ(x2:Int×ByteArray×Bool×Sl×Sl)=>AI (x2.1,x2.2.1,x2.2.2.1,x2.2.2.2.1,x2.2.2.2.2)
abbrev aeq (n:Nat):bz:=⟨9,[oe],[.agg [.int .i64,.str,.bool,.sl,.sl]],λx=>dY n x⟩
theorem wC (n:Nat):aP TZp (aeq n):=bE Tryz.f9 (ab3 n) (hT:=.m1 (aep n))
abbrev Yh (n:Nat):List bz:=aeq n::ab3 n
theorem ab4 (n:Nat):aJ TZp (Yh n):=.cons (wC n) (aep n)
def jr (G:Sl->Sl->Int->M (Unit⊕Bool))(n:Nat)(a0 a1:Sl)(a2:Int):M (Unit⊕Bool):=if decide (a2<(↑a0.len:Int)) then sh (av a0 a2 2) λx0=>sh (av a1 a2 2) λx1=>sh (aI [li,.str] x0) λ(x2:Int×ByteArray)=>sh (aI [li,.str] x1) λ(x3:Int×ByteArray)=>if !(decide (x2.1=x3.1)&&(mI x2.2 x3.2&&true)) then AI (Sum.inr false) else G a0 a1 (i64.wrap (a2+1)) else AI (Sum.inl ())
def dV:Nat->Sl->Sl->Int->M (Unit⊕Bool)|0=>λ_ _ _=>AS|n+1=>jr (dV n) n
theorem sf (n:Nat):dV (n+1)=jr (dV n) n:=rfl
def ju (n:Nat)(a0 a1:Sl):M Bool:=if !decide ((↑a0.len:Int)=(↑a1.len:Int)) then AI false else sh (dV n a0 a1 0) (cw (λx0=>AI true) (λx0=>AI x0))
abbrev aaE (n:Nat):bz:=⟨10,[cJ,cJ],[jz],λx=>ju n x.1 x.2⟩
abbrev Jf:L2:=⟨[0,1,0,1,1],[(0,cJ),(1,cJ),(5,aB)],[],[(4,jz)],[4,5]++List.range' 11 15,0,.ret,λn x=>dV n x.1 x.2.1 x.2.2⟩
def Vm (i:Nat):Option (List (Nat×List Nat)):=cond (Nat.beq i 6) (some [(0,[]),(1,[]),(2,[]),(4,[]),(5,[]),(6,[]),(3,[]),(7,[]),(8,[])]) (none)
theorem Sb (n:Nat):kE TZp Tryz.f10 (Jf.e n) Jf.ws:=L2.ok Tryz.f10 Jf n Yh (dr:=Vm) (hT:=λm _=>.m1 (ab4 m))
theorem u7 (n:Nat):aP TZp (aaE n):=bE Tryz.f10 (Yh n) (ll:=[Jf.e n]) (dr:=Vm) (hT:=⟨.nil,ab4 n,.nil,(.cc (Sb n) .nil),.nil⟩)
abbrev ab5 (n:Nat):List bz:=aaE n::Yh n
theorem aer (n:Nat):aJ TZp (ab5 n):=.cons (u7 n) (ab4 n)
def mh (n:Nat):M Bool:=sh (aO none au [vi 1,vi 2]) λx0=>sh (dY n (ofBytes [49])) λx1=>sh (dY n (ofBytes [49])) λx2=>sh (aO none aw [vi 9,.string (ofBytes []),.bool false,aU,.slice (some (ak x0)) 2 3,vi x1.1,.string x1.2.1,.bool x1.2.2.1,aE x1.2.2.2.1,aE x1.2.2.2.2,vi x2.1,.string x2.2.1,.bool x2.2.2.1,aE x2.2.2.2.1,aE x2.2.2.2.2]) λx3=>sh (aO none aj [aU,vi 0]) λx4=>sh (bG (ak x4) [.slice (some (ak x3)) 3 4,vi 0]) λx5=>sh (aO none au [vi 1,vi 1]) λx6=>sh (dY n (ofBytes [49])) λx7=>sh (aO none aw [vi 9,.string (ofBytes []),.bool false,aU,.slice (some (ak x6)) 2 3,vi x7.1,.string x7.2.1,.bool x7.2.2.1,aE x7.2.2.2.1,aE x7.2.2.2.2]) λx8=>sh (aO none aj [aU,vi 0]) λx9=>sh (bG (ak x9) [.slice (some (ak x8)) 2 3,vi 0]) λx10=>sh (aO none au [vi 1,vi 2]) λx11=>sh (dY n (ofBytes [49])) λx12=>sh (dY n (ofBytes [53])) λx13=>sh (aO none aw [vi 9,.string (ofBytes []),.bool false,aU,.slice (some (ak x11)) 2 3,vi x12.1,.string x12.2.1,.bool x12.2.2.1,aE x12.2.2.2.1,aE x12.2.2.2.2,vi x13.1,.string x13.2.1,.bool x13.2.2.1,aE x13.2.2.2.1,aE x13.2.2.2.2]) λiK=>sh (aO none aj [aU,vi 0]) λx15=>sh (bG (ak x15) [.slice (some (ak iK)) 3 4,vi 0]) λpo=>sh (aO none au [vi 0]) λx17=>sh (aO none aw [vi 9,.string (ofBytes []),.bool false,aU,.slice (some (ak x17)) 1 2]) λqH=>sh (aO none aj [aU,vi 0]) λx19=>sh (bG (ak x19) [.slice (some (ak qH)) 1 2,vi 0]) λx20=>sh (aO none au [vi 1]) λx21=>sh (aO none au [vi 0]) λx22=>sh (aO none aw [vi 9,.string (ofBytes []),.bool false,aU,.slice (some (ak x21)) 1 2,vi 9,.string (ofBytes []),.bool false,aU,.slice (some (ak x22)) 1 2]) λx23=>sh (aO none aj [aU,vi 0]) λx24=>sh (bG (ak x24) [.slice (some (ak x23)) 2 3,vi 0]) λx25=>sh (aI [.sl,li] (ak x4)) λ(x26:Sl×Int)=>sh (aI [.sl,li] (ak x15)) λ(x27:Sl×Int)=>sh (se n (x26.1,x26.2) (x27.1,x27.2)) λx28=>sh (aI [.sl,li] (ak x4)) λ(x29:Sl×Int)=>sh (aI [.sl,li] (ak x9)) λ(x30:Sl×Int)=>sh (fV n (x29.1,x29.2) (x30.1,x30.2)) λx31=>if x31 then sh (aI [.sl,li] (ak x4)) λ(x32:Sl×Int)=>sh (aI [.sl,li] (ak x15)) λ(x33:Sl×Int)=>sh (fV n (x32.1,x32.2) (x33.1,x33.2)) λx34=>if !x34 then sh (aI [.sl,li] (ak x19)) λ(x35:Sl×Int)=>sh (aI [.sl,li] (ak x24)) λ(x36:Sl×Int)=>sh (fV n (x35.1,x35.2) (x36.1,x36.2)) λx37=>if x37 then sh (aI [.sl,li] (ak x19)) λ(x38:Sl×Int)=>sh (aI [.sl,li] (ak x4)) λ(x39:Sl×Int)=>sh (fV n (x38.1,x38.2) (x39.1,x39.2)) λx40=>if !x40 then if x28.2 then sh (aO none aC [vi 1,.string (ofBytes [])]) λx41=>sh (ju n x28.1 { a:=some (ak x41),len:=1,cap:=2 }) λx42=>AI x42 else AI false else AI false else AI false else AI false else AI false
abbrev aes (n:Nat):bz:=⟨4,[],[jz],λ_=>mh n⟩
theorem xd (n:Nat):aP TZp (aes n):=bE Tryz.f4 (ab5 n) (hT:=.m1 (aer n))
abbrev Yi (n:Nat):List bz:=aes n::ab5 n
theorem ab6 (n:Nat):aJ TZp (Yi n):=.cons (xd n) (aer n)
def kA (G:Addr->Int->Int->Int->M ((Int×Int)⊕Bool))(n:Nat)(a0:Addr)(a1 a2 a3:Int)(a4:Addr):M ((Int×Int)⊕Bool):=sh (aq .sl (a4.plus 3)) λ(x0:Sl)=>sh (aq .sl (a4.plus 4)) λ(x1:Sl)=>sh (aq .str (a4.plus 1)) λ(x2:ByteArray)=>G a0 (i64.wrap (a1+i64.wrap ((↑x0.len:Int)+(↑x1.len:Int)))) (i64.wrap (a2+(↑(ByteArray.size x2):Int))) (i64.wrap (a3+1))
def mS (G:Addr->Int->Int->Int->M ((Int×Int)⊕Bool))(n:Nat)(a0:Addr)(a1 a2 a3:Int):M ((Int×Int)⊕Bool):=sh (aq .sl (a0.plus 0)) λ(x0:Sl)=>if decide (a3<(↑x0.len:Int)) then sh (aq .sl (a0.plus 0)) λ(x1:Sl)=>sh (av x1 a3 5) λx2=>sh (aI [li,.str,.bool,.sl,.sl] x2) λ(x3:Int×ByteArray×Bool×Sl×Sl)=>sh (aO none aw [vi 0,.string (ofBytes []),.bool false,aU,aU]) λx4=>sh (bG (ak x4) [vi x3.1,.string x3.2.1,.bool x3.2.2.1,aE x3.2.2.2.1,aE x3.2.2.2.2]) λx5=>sh (aq .str ((ak x4).plus 1)) λ(x6:ByteArray)=>if decide (100<(↑(ByteArray.size x6):Int)) then AI (Sum.inr false) else sh (aq .sl ((ak x4).plus 3)) λ(x7:Sl)=>if decide (80<(↑x7.len:Int)) then AI (Sum.inr false) else sh (aq .sl ((ak x4).plus 4)) λ(x8:Sl)=>if decide (80<(↑x8.len:Int)) then AI (Sum.inr false) else kA G n a0 a1 a2 a3 (ak x4) else AI (Sum.inl (a1,a2))
def fk:Nat->Addr->Int->Int->Int->M ((Int×Int)⊕Bool)|0=>λ_ _ _ _=>AS|n+1=>mS (fk n) n
theorem u9 (n:Nat):fk (n+1)=mS (fk n) n:=rfl
def wD (n:Nat):=kA (fk n) n
def oc (n:Nat)(a0:Sl×Int):M Bool:=sh (aO none aj [aE a0.1,vi a0.2]) λx0=>sh (aq .sl ((ak x0).plus 0)) λ(x1:Sl)=>if decide (40<(↑x1.len:Int)) then AI false else sh (fk n (ak x0) 0 0 0) (cw (λx2=>if decide (x2.1<=240) then AI (decide (x2.2<=300)) else AI false) (λx2=>AI x2))
abbrev aet (n:Nat):bz:=⟨5,[.agg [.sl,.int .i64]],[jz],λx=>oc n x⟩
abbrev PG:L2:=⟨[0,1,0,1,1,1],[(1,aK),(3,aB),(4,aB),(5,aB)],[(3,aB),(4,aB)],[(2,jz)],List.range' 2 5++List.range' 11 42,0,.ret,λn x=>fk n x.1 x.2.1 x.2.2.1 x.2.2.2⟩
abbrev Vn (n:Nat):List (gj ((Int×Int)⊕Bool)):=[⟨[0,1,1,0,0,1,0,0,1,0,1,1,1],[.code [1,1,1,0,0,1,0,0,1,0,1,1,1],.ar 1,.code [1,1,0,0,1,0,1,1,1]],[(1,aK),(3,aB),(4,aB),(5,aB),(6,aK)],λx=>wD n x.1 x.2.1 x.2.2.1 x.2.2.2.1 x.2.2.2.2⟩]
theorem Vo (n:Nat):kE TZp Tryz.f5 (PG.e n) PG.ws:=L2.ok Tryz.f5 PG n Yi (jt:=Vn) (hT:=λm _=>⟨.nil,ab6 m,.nil,.nil,(.cc .nil)⟩)
theorem y7 (n:Nat):aP TZp (aet n):=bE Tryz.f5 (Yi n) (ll:=[PG.e n]) (hT:=⟨.nil,ab6 n,.nil,(.cc (Vo n) .nil),.nil⟩)
abbrev ab7 (n:Nat):List bz:=aet n::Yi n
theorem aeu (n:Nat):aJ TZp (ab7 n):=.cons (y7 n) (ab6 n)
def eZ (G:Addr->Int->M (Unit⊕Bool))(n:Nat)(a0:Addr)(a1:Int):M (Unit⊕Bool):=if decide (a1<3) then sh (kC (decide (0<=a1/\a1<(↑3:Int)))) λx0=>sh (aI [.sl,li] (a0.plus (a1.toNat*2))) λ(x1:Sl×Int)=>sh (oc n (x1.1,x1.2)) λx2=>if !x2 then AI (Sum.inr true) else sh (kC (decide (0<=a1/\a1<(↑3:Int)))) λx3=>sh (aI [.sl,li] (a0.plus (a1.toNat*2))) λ(x4:Sl×Int)=>sh (lL n (x4.1,x4.2)) λx5=>if !decide (x5=0) then sh (kC (decide (0<=a1/\a1<(↑3:Int)))) λx6=>sh (kC (decide (0<=a1/\a1<(↑3:Int)))) λx7=>sh (aI [.sl,li] (a0.plus (a1.toNat*2))) λ(x8:Sl×Int)=>sh (aI [.sl,li] (a0.plus (a1.toNat*2))) λ(x9:Sl×Int)=>sh (fV n (x8.1,x8.2) (x9.1,x9.2)) λx10=>AI (Sum.inr !x10) else sh (kC (decide (0<=a1/\a1<(↑3:Int)))) λx6=>sh (kC (decide (0<=a1/\a1<(↑3:Int)))) λx7=>sh (aI [.sl,li] (a0.plus (a1.toNat*2))) λ(x8:Sl×Int)=>sh (aI [.sl,li] (a0.plus (a1.toNat*2))) λ(x9:Sl×Int)=>sh (fV n (x8.1,x8.2) (x9.1,x9.2)) λx10=>if !x10 then AI (Sum.inr false) else G a0 (i64.wrap (a1+1)) else AI (Sum.inl ())
def bM:Nat->Addr->Int->M (Unit⊕Bool)|0=>λ_ _=>AS|n+1=>eZ (bM n) n
theorem jC (n:Nat):bM (n+1)=eZ (bM n) n:=rfl
def jG (n:Nat)(a0:Sl×Int×Sl×Int×Sl×Int):M Bool:=sh (aO none cW [aE a0.1,vi a0.2.1,aE a0.2.2.1,vi a0.2.2.2.1,aE a0.2.2.2.2.1,vi a0.2.2.2.2.2]) λx0=>sh (mh n) λx1=>if !x1 then AI false else sh (bM n (ak x0) 0) (cw (λx2=>sh (kC (decide (0<=0/\0<(↑3:Int)))) λx3=>sh (kC (decide (0<=1/\1<(↑3:Int)))) λx4=>sh (kC (decide (0<=1/\1<(↑3:Int)))) λx5=>sh (kC (decide (0<=0/\0<(↑3:Int)))) λx6=>sh (aI [.sl,li] ((ak x0).plus 0)) λ(x7:Sl×Int)=>sh (aI [.sl,li] ((ak x0).plus 2)) λ(x8:Sl×Int)=>sh (aI [.sl,li] ((ak x0).plus 2)) λ(x9:Sl×Int)=>sh (aI [.sl,li] ((ak x0).plus 0)) λ(x10:Sl×Int)=>sh (kG [some ((ak x0).plus 2),some ((ak x0).plus 0)] (fV n (x7.1,x7.2) (x8.1,x8.2))) λx11=>sh (fV n (x9.1,x9.2) (x10.1,x10.2)) λx12=>sh (kC (decide (0<=1/\1<(↑3:Int)))) λx13=>sh (kC (decide (0<=2/\2<(↑3:Int)))) λiK=>sh (kC (decide (0<=0/\0<(↑3:Int)))) λx15=>sh (kC (decide (0<=2/\2<(↑3:Int)))) λpo=>sh (aI [.sl,li] ((ak x0).plus 2)) λ(x17:Sl×Int)=>sh (aI [.sl,li] ((ak x0).plus 4)) λ(qH:Sl×Int)=>sh (aI [.sl,li] ((ak x0).plus 0)) λ(x19:Sl×Int)=>sh (aI [.sl,li] ((ak x0).plus 4)) λ(x20:Sl×Int)=>sh (kG [some ((ak x0).plus 0),some ((ak x0).plus 4)] (fV n (x17.1,x17.2) (qH.1,qH.2))) λx21=>sh (fV n (x19.1,x19.2) (x20.1,x20.2)) λx22=>sh (kC (decide (0<=0/\0<(↑3:Int)))) λx23=>sh (aI [.sl,li] ((ak x0).plus 0)) λ(x24:Sl×Int)=>sh (kC (decide (0<=1/\1<(↑3:Int)))) λx25=>sh (aI [.sl,li] ((ak x0).plus 2)) λ(x26:Sl×Int)=>sh (se n (x24.1,x24.2) (x26.1,x26.2)) λx27=>if x11==x12 then if x27.2==!x11 then if !x11 then AI true else AI (x21==x22) else AI false else AI false) (λx2=>AI x2))
abbrev ahn (n:Nat):bz:=⟨3,[.agg [.sl,.int .i64,.sl,.int .i64,.sl,.int .i64]],[jz],λx=>jG n x⟩
abbrev PH:L2:=⟨[0,1,0,1,1],[(1,aK),(3,aB)],[],[(2,jz)],[2,3]++List.range' 12 30,0,.ret,λn x=>bM n x.1 x.2⟩
def aaF (i:Nat):Option (List (Nat×List Nat)):=cond (Nat.beq i 9) (some [(0,[]),(1,[]),(3,[]),(4,[]),(2,[]),(5,[]),(6,[]),(7,[]),(8,[])]) (cond (Nat.beq i 10) (some [(0,[]),(1,[]),(3,[]),(4,[]),(2,[]),(5,[]),(6,[]),(7,[])]) (cond (Nat.beq i 12) (some [(0,[]),(2,[]),(5,[]),(7,[]),(1,[]),(3,[]),(6,[]),(8,[]),(4,[6,8]),(9,[]),(10,[]),(11,[])]) (cond (Nat.beq i 13) (some [(0,[]),(2,[]),(5,[]),(7,[]),(1,[]),(3,[]),(6,[]),(8,[]),(4,[6,8]),(9,[]),(10,[]),(11,[])]) (none))))
theorem Vp (n:Nat):kE TZp Tryz.f3 (PH.e n) PH.ws:=L2.ok Tryz.f3 PH n ab7 (dr:=aaF) (hT:=λm _=>.m1 (aeu m))
theorem sP (n:Nat):aP TZp (ahn n):=bE Tryz.f3 (ab7 n) (ll:=[PH.e n]) (dr:=aaF) (hT:=⟨.nil,aeu n,.nil,(.cc (Vp n) .nil),.nil⟩)
end Go.Sh
