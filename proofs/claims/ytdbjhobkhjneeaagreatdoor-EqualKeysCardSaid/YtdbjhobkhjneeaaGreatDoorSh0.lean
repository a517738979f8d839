
import Derived.Test.YtdbjhobkhjneeaaGreatDoorShLib
set_option linter.all false
set_option maxRecDepth 100000
set_option maxHeartbeats 0
namespace Go.Sh
open Go Go.Ago Go.Proofs Go.IntKind
noncomputable abbrev TZp:=Tryz.prog
abbrev J11:=Int×Int×Int×Int×Int×Int×Int×Int×Int×Int×Int
abbrev C0 (n:Nat):List dZ:=[eN 96 [.one (.str),.one (.str)] [.one (.str),.one (.bool)] (strings_CutPrefix n),eN 161 [.one (.int .u64)] [.one (.int .i64)] (de n),eN 162 [.one (.int .u64),.one (.int .i64)] [.one (.str)] (gI n),eN 67 [.one (.ptr)] [.one (.ptr)] (rR n),eN 100 [.one (.str),.one (.int .i64),.one (.int .i64)] [.one (.int .u64),.one (.raw)] (fS n),eN 164 [.one (.str),.one (.int .i64)] [.one (.str)] (strings_Repeat n),eN 136 [.one (.f64)] [.one (.int .u64)] (cd n),eN 91 [.one (.str),.one (.str)] [.one (.str)] (strings_TrimPrefix n),eN 171 [.one (.str),.one (.str)] [.one (.int .i64)] (eh n),eN 140 [.one (.str),.one (.str)] [.one (.str)] (hY n),eN 155 [.one (.str),.one (.str)] [.one (.int .i64)] (jG n),eN 86 [.one (.int .u64)] [.one (.int .i64)] (gm n),eN 89 [.one (.str),.one (.int .u8)] [.one (.int .i64)] (strings_IndexByte n),eN 90 [.one (.str)] [.one (.int .i64),.one (.raw)] (strconv_Atoi n),eN 59 [.one (.str)] [.one (.int .i64),.one (.int .i64)] (qD n),eN 125 [.one (.int .i64)] [.one (.str)] (strconv_Itoa n),eN 127 [.one (.int .u64)] [.one (.f64)] (bC n)]
def K0 (n:Nat):eY TZp (C0 n):=.cons (AF n) (.cons (uS n) (.cons (yc n) (.cons (D5 n) (.cons (AG n) (.cons (D4 n) (.cons (BP n) (.cons (zV n) (.cons (pI n) (.cons (AE n) (.cons (yT n) (.cons (CN n) (.cons (AD n) (.cons (strconv_Atoi_ok n) (.cons (CL n) (.cons (Gc n) (.cons (yb n) .nil))))))))))))))))
def qQ:uC (Addr->Bool->Sl->Int->Int->Sl->Int->Int->Sl->Int->Int->M Bool):=λG n a0 a1 a2 a3 a4 a5 a6 a7 a8 a9 a10=>if decide (a10<a9) then iX a8 a10 1 λx0=>eI x0 λx1=>if a1 then if decide (0<=x1) then lS a0 0 λx2=>G a0 (decide (x1<(↑x2.len:Int))) a2 a3 a4 a5 a6 a7 a8 a9 (i64.wrap (a10+1)) else G a0 false a2 a3 a4 a5 a6 a7 a8 a9 (i64.wrap (a10+1)) else G a0 false a2 a3 a4 a5 a6 a7 a8 a9 (i64.wrap (a10+1)) else AI a1
def lZ:=lp qQ
theorem zW (n:Nat):lZ (n+1)=qQ (lZ n) n:=rfl
def j7:uC (Addr->Bool->Sl->Int->Int->Sl->Int->Int->M Bool):=λG n a0 a1 a2 a3 a4 a5 a6 a7=>if decide (a7<a6) then iX a5 a7 1 λx0=>eS x0 λx1=>sh (lZ n a0 a1 a2 a3 a4 a5 a6 a7 x1 (↑x1.len:Int) 0) λx2=>G a0 x2 a2 a3 a4 a5 a6 (i64.wrap (a7+1)) else AI a1
def mc:=lp j7
theorem ou (n:Nat):mc (n+1)=j7 (mc n) n:=rfl
def qR:uC (Addr->Bool->Sl->Int->Int->M Bool):=λG n a0 a1 a2 a3 a4=>if decide (a4<a3) then iX a2 a4 5 λx0=>nL x0 λx1=>nW az [vi 0,.string (ofBytes []),.bool false,aI,aI] λx2=>sN (ak x2) [vi x1.1,.string x1.2.1,.bool x1.2.2.1,aC x1.2.2.2.1,aC x1.2.2.2.2] λx3=>lS (ak x2) 3 λx4=>lS (ak x2) 4 λx5=>nW aJ [aC x4,aC x5] λx6=>sh (mc n a0 a1 a2 a3 a4 { a:=some (ak x6),len:=2,cap:=3 } (↑2:Int) 0) λx7=>G a0 x7 a2 a3 (i64.wrap (a4+1)) else AI a1
def mf:=lp qR
theorem zX (n:Nat):mf (n+1)=qR (mf n) n:=rfl
def mg (n:Nat)(a0:Addr)(a1:Bool):M Bool:=lS a0 0 λx0=>sh (mf n a0 a1 x0 (↑x0.len:Int) 0) λx1=>AI x1
def uk (n:Nat)(a0:Sl×Int):M Bool:=nW ah [aC a0.1,vi a0.2] λx0=>lI (ak x0) 1 λx1=>if decide (0<=x1) then lI (ak x0) 1 λx2=>lS (ak x0) 0 λx3=>mg n (ak x0) (decide (x2<(↑x3.len:Int))) else mg n (ak x0) false
abbrev aeQ (n:Nat):dZ:=eN 28 [.agg [.sl,.int .i64]] [jF] (uk n)
abbrev agK:=L1 [0,1,0,1,1] [(1,aG),(3,jF),(22,cB),(23,aw),(24,aw)] [(3,jF)] ([3,5,7,9]++rG 24 35) 0 mf
abbrev agL:=L1 (bL 11467) [(1,aG),(3,jF),(22,cB),(23,aw),(24,aw),(32,cB),(33,aw),(34,aw)] [(3,jF)] ([3,7,9]++rG 34 24) 2 mc
abbrev agM:=L1 (bL 2936011) [(1,aG),(3,jF),(22,cB),(23,aw),(24,aw),(32,cB),(33,aw),(34,aw),(38,cB),(39,aw),(40,aw)] [(3,jF)] ([3,9]++rG 40 17) 4 lZ
abbrev agN (n:Nat):List (iV Bool):=[jN [0,0,1,1] [.code [1,0,1,1],.code [1,1,1]] [(1,aG),(3,jF)] (mg n)]
def Um (n:Nat):=agM.k TZp Tryz.f28 n (hT:=λm _=>.m1 (K0 m))
def Un (n:Nat):=agL.k TZp Tryz.f28 n (hT:=λm _=>.m2 (K0 m) (.cc (Um m) .nil))
def Uo (n:Nat):=agK.k TZp Tryz.f28 n (hT:=λm _=>.m2 (K0 m) (.cc (Un m) .nil))
def EZ (n:Nat):aH TZp (aeQ n):=bg Tryz.f28 (js:=agN n) (hT:=⟨.nil,K0 n,.nil,(.cc (Uo n) .nil),(.cc .nil)⟩)
structure aQ where
 gC:Int->Addr->Addr->Sl->Int->Int->M Unit
 gD:Addr->Sl->Int->Int->M Unit
 jy:Int->Addr->Addr->Addr->M Unit
def iM (G:aQ)(n:Nat)(x:ο)(a0:Int):M Unit:=if rC oH x then sh (qj [aG,aG,aG] x) λ(c:Addr×Addr×Addr)=>G.jy a0 c.1 c.2.1 c.2.2 else AS
abbrev ov:=iM
def oT (G:aQ)(n:Nat)(a0:Int)(a1 a2:Addr)(a3:Sl)(a4 a5:Int):M Unit:=if decide (a5<a4) then iX a3 a5 1 λx0=>eI x0 λx1=>sh (e9 .raw a2) λ(x2:ο)=>sh (iM G n x2 x1) λx3=>G.gC a0 a1 a2 a3 a4 (i64.wrap (a5+1)) else AI ()
def oU (G:aQ)(n:Nat)(a0:Addr)(a1:Sl)(a2 a3:Int):M Unit:=if decide (a3<a2) then iX a1 a3 1 λx0=>eI x0 λx1=>sh (e9 .raw a0) λ(x2:ο)=>sh (ov G n x2 x1) λx3=>G.gD a0 a1 a2 (i64.wrap (a3+1)) else AI ()
def rS (G:aQ)(n:Nat)(a0:Int)(a1 a2 a3:Addr):M Unit:=eS a1 λx0=>iX x0 a0 1 λx1=>eB x1 λx2=>if x2 then AI () else eS a1 λx3=>iX x3 a0 1 λx4=>sN x4 [.bool true] λx5=>lS a2 0 λx6=>iX x6 a0 5 λx7=>lS x7 3 λx8=>sh (G.gC a0 a2 a3 x8 (↑x8.len:Int) 0) λx9=>lS a2 0 λx10=>iX x10 a0 5 λx11=>lS x11 4 λx12=>sh (G.gD a3 x12 (↑x12.len:Int) 0) λx13=>AI ()
def aQ.at:Nat->aQ|0=>⟨λ_ _ _ _ _ _=>AS,λ_ _ _ _=>AS,λ_ _ _ _=>AS⟩|n+1=>⟨oT (aQ.at n) n,oU (aQ.at n) n,rS (aQ.at n) n⟩
def gC (n:Nat):=(aQ.at n).gC
theorem yd (n:Nat):gC (n+1)=oT (aQ.at n) n:=rfl
def gD (n:Nat):=(aQ.at n).gD
theorem ye (n:Nat):gD (n+1)=oU (aQ.at n) n:=rfl
def jy (n:Nat):=(aQ.at n).jy
theorem AH (n:Nat):jy (n+1)=rS (aQ.at n) n:=rfl
def BQ (n:Nat):=iM (aQ.at n) n
def BR (n:Nat):=ov (aQ.at n) n
abbrev RY (n:Nat):dZ:=eN 45 [aw,aG,aG,aG] [] (jy n)
abbrev agO:=L1 [0,1,0,1,1] [(0,aw),(2,aG),(3,aG),(21,cB),(22,aw),(23,aw)] [] ([6]++rG 23 8) 0 gC
abbrev agP:=L1 [0,1,1,1,1] [(3,aG),(36,cB),(37,aw),(38,aw)] [] ([8]++rG 38 8) 2 gD
abbrev C1 (n:Nat):List dZ:=RY n::C0 n
abbrev agQ (n:Nat):List ru:=[dN 27 [aw] [] (BQ n), dN 42 [aw] [] (BR n)]
def ic (n:Nat):Prop:=aH TZp (RY n)
def acp (n:Nat)(H:ic n):eY TZp (C1 n):=.cons H (K0 n)
def Qh (n:Nat)(H:ic n):qO TZp (agQ n):=.cons (dj (.cons (oQ [aG,aG,aG] (H)) .nil)) (.cons (dj (.cons (oQ [aG,aG,aG] (H)) .nil)) .nil)
def Up (n:Nat)(H:Hy ic n):=agO.k TZp Tryz.f45 n (hT:=λm hm=>⟨.nil,acp m ((H.d hm).s),(Qh m ((H.d hm).s)),.nil,.nil⟩)
def Uq (n:Nat)(H:Hy ic n):=agP.k TZp Tryz.f45 n (hT:=λm hm=>⟨.nil,acp m ((H.d hm).s),(Qh m ((H.d hm).s)),.nil,.nil⟩)
def yf (n:Nat)(H:Hy ic n):aH TZp (RY (n+1)):=bg Tryz.f45 (hT:=⟨.nil,acp n (H.s),(Qh n (H.s)),(.cc (Up n H) (.cc (Uq n H) .nil)),.nil⟩)
def tu (n:Nat):ic n:=NT (Q:=ic) (gR Tryz.f45) yf n
def CP (n:Nat):aH TZp (RY n):=(tu n)
def K1 (n:Nat):eY TZp (C1 n):=acp n (tu n)
def nM:uC (ζ->Int->Int->M (Unit⊕Bool)):=λG n a0 a1 a2=>if decide (a2<a1) then sh (kF a0 a2) λx0=>if decide (97<=(↑x0.toNat:Int)) then if decide ((↑x0.toNat:Int)<=122) then G a0 a1 (i64.wrap (a2+1)) else if decide (65<=(↑x0.toNat:Int)) then if decide ((↑x0.toNat:Int)<=90) then G a0 a1 (i64.wrap (a2+1)) else if decide (48<=(↑x0.toNat:Int)) then if decide ((↑x0.toNat:Int)<=57) then G a0 a1 (i64.wrap (a2+1)) else if decide ((↑x0.toNat:Int)=95) then G a0 a1 (i64.wrap (a2+1)) else if decide ((↑x0.toNat:Int)=45) then G a0 a1 (i64.wrap (a2+1)) else if decide ((↑x0.toNat:Int)=46) then G a0 a1 (i64.wrap (a2+1)) else if !decide ((↑x0.toNat:Int)=58) then AI (Sum.inr false) else G a0 a1 (i64.wrap (a2+1)) else if decide ((↑x0.toNat:Int)=95) then G a0 a1 (i64.wrap (a2+1)) else if decide ((↑x0.toNat:Int)=45) then G a0 a1 (i64.wrap (a2+1)) else if decide ((↑x0.toNat:Int)=46) then G a0 a1 (i64.wrap (a2+1)) else if !decide ((↑x0.toNat:Int)=58) then AI (Sum.inr false) else G a0 a1 (i64.wrap (a2+1)) else if decide (48<=(↑x0.toNat:Int)) then if decide ((↑x0.toNat:Int)<=57) then G a0 a1 (i64.wrap (a2+1)) else if decide ((↑x0.toNat:Int)=95) then G a0 a1 (i64.wrap (a2+1)) else if decide ((↑x0.toNat:Int)=45) then G a0 a1 (i64.wrap (a2+1)) else if decide ((↑x0.toNat:Int)=46) then G a0 a1 (i64.wrap (a2+1)) else if !decide ((↑x0.toNat:Int)=58) then AI (Sum.inr false) else G a0 a1 (i64.wrap (a2+1)) else if decide ((↑x0.toNat:Int)=95) then G a0 a1 (i64.wrap (a2+1)) else if decide ((↑x0.toNat:Int)=45) then G a0 a1 (i64.wrap (a2+1)) else if decide ((↑x0.toNat:Int)=46) then G a0 a1 (i64.wrap (a2+1)) else if !decide ((↑x0.toNat:Int)=58) then AI (Sum.inr false) else G a0 a1 (i64.wrap (a2+1)) else if decide (65<=(↑x0.toNat:Int)) then if decide ((↑x0.toNat:Int)<=90) then G a0 a1 (i64.wrap (a2+1)) else if decide (48<=(↑x0.toNat:Int)) then if decide ((↑x0.toNat:Int)<=57) then G a0 a1 (i64.wrap (a2+1)) else if decide ((↑x0.toNat:Int)=95) then G a0 a1 (i64.wrap (a2+1)) else if decide ((↑x0.toNat:Int)=45) then G a0 a1 (i64.wrap (a2+1)) else if decide ((↑x0.toNat:Int)=46) then G a0 a1 (i64.wrap (a2+1)) else if !decide ((↑x0.toNat:Int)=58) then AI (Sum.inr false) else G a0 a1 (i64.wrap (a2+1)) else if decide ((↑x0.toNat:Int)=95) then G a0 a1 (i64.wrap (a2+1)) else if decide ((↑x0.toNat:Int)=45) then G a0 a1 (i64.wrap (a2+1)) else if decide ((↑x0.toNat:Int)=46) then G a0 a1 (i64.wrap (a2+1)) else if !decide ((↑x0.toNat:Int)=58) then AI (Sum.inr false) else G a0 a1 (i64.wrap (a2+1)) else if decide (48<=(↑x0.toNat:Int)) then if decide ((↑x0.toNat:Int)<=57) then G a0 a1 (i64.wrap (a2+1)) else if decide ((↑x0.toNat:Int)=95) then G a0 a1 (i64.wrap (a2+1)) else if decide ((↑x0.toNat:Int)=45) then G a0 a1 (i64.wrap (a2+1)) else if decide ((↑x0.toNat:Int)=46) then G a0 a1 (i64.wrap (a2+1)) else if !decide ((↑x0.toNat:Int)=58) then AI (Sum.inr false) else G a0 a1 (i64.wrap (a2+1)) else if decide ((↑x0.toNat:Int)=95) then G a0 a1 (i64.wrap (a2+1)) else if decide ((↑x0.toNat:Int)=45) then G a0 a1 (i64.wrap (a2+1)) else if decide ((↑x0.toNat:Int)=46) then G a0 a1 (i64.wrap (a2+1)) else if !decide ((↑x0.toNat:Int)=58) then AI (Sum.inr false) else G a0 a1 (i64.wrap (a2+1)) else AI (Sum.inl ())
def oh:=lp nM
def yU (n:Nat)(a0:ζ):M Bool:=sh (oh n a0 (↑a0.size:Int) 0) (dX (λx0=>if decide (1<=(↑a0.size:Int)) then AI (decide ((↑a0.size:Int)<=64)) else AI false) (λx0=>AI x0))
abbrev aeR (n:Nat):dZ:=eN 46 [pX] [jF] (yU n)
abbrev agR:=L2 [0,1,0,1] [(0,pX),(6,aw),(7,aw)] [] [(2,jF)] ([2,3,4]++rG 7 46) 0 .ret oh
def Ur (n:Nat):=agR.k TZp Tryz.f46 n (hT:=λm _=>.m1 (K1 m))
def Jk (n:Nat):aH TZp (aeR n):=bg Tryz.f46 (hT:=.m2 (K1 n) (.cc (Ur n) .nil))
def rT:uC (Sl->M Sl):=λG n a0=>if decide (0<(↑a0.len:Int)) then iX a0 (i64.wrap ((↑a0.len:Int)-1)) 1 λx0=>sh (e9 (.int IntKind.u8) x0) λ(x1:Int)=>if decide (x1=0) then sh (mU a0 0 (i64.wrap ((↑a0.len:Int)-1)) gU 1) λx2=>G x2 else AI a0 else AI a0
def kQ:=lp rT
theorem AJ (n:Nat):kQ (n+1)=rT (kQ n) n:=rfl
def yV (n:Nat)(a0:Sl):M Sl:=sh (kQ n a0) λx0=>AI x0
abbrev aeS (n:Nat):dZ:=eN 88 [cB] [cB] (yV n)
abbrev agS:=L1 [0,0,1] [(0,cB)] [(0,cB)] ([0]++rG 3 17) 0 kQ
def Us (n:Nat):=agS.k TZp Tryz.f88 n (hT:=λm _=>.m1 (K1 m))
def Gd (n:Nat):aH TZp (aeS n):=bg Tryz.f88 (hT:=.m2 (K1 n) (.cc (Us n) .nil))
def rU:uC (Bool->Sl->Int->Addr->M (Sl×Int)):=λG n a0 a1 a2 a3=>if decide (0<(↑a1.len:Int)) then iX a1 (i64.wrap ((↑a1.len:Int)-1)) 1 λx0=>sh (e9 (.int IntKind.u8) x0) λ(x1:Int)=>if decide (x1=0) then sh (mU a1 0 (i64.wrap ((↑a1.len:Int)-1)) gU 1) λx2=>G a0 x2 (i64.wrap (a2+1)) a3 else AI (a1,a2) else AI (a1,a2)
def nN:=lp rU
theorem AK (n:Nat):nN (n+1)=rU (nN n) n:=rfl
def rV:uC (Bool->Sl->Int->Addr->M Sl):=λG n a0 a1 a2 a3=>if decide (0<(↑a1.len:Int)) then iX a1 0 1 λx0=>sh (e9 (.int IntKind.u8) x0) λ(x1:Int)=>if decide (x1=0) then sh (mU a1 1 (↑a1.len:Int) gU 1) λx2=>G a0 x2 a2 a3 else AI a1 else AI a1
def nO:=lp rV
theorem AL (n:Nat):nO (n+1)=rV (nO n) n:=rfl
def vz (n:Nat)(a0:Bool)(a1:Sl)(a2:Int):M (Bool×Sl×Int):=nW bz [.bool false,aI,vi 0] λx0=>sh (nO n a0 a1 a2 (ak x0)) λx1=>sh (nN n a0 x1 a2 (ak x0)) λx2=>if decide ((↑x2.1.len:Int)=0) then sN (ak x0) [.bool false,aI,vi 0] λx3=>sh (bY [.bool,.sl,li] (ak x0)) λ(x4:Bool×Sl×Int)=>AI (x4.1,x4.2.1,x4.2.2) else sh (An none gU [.int IntKind.u8 0] (↑x2.1.len:Int) (↑x2.1.len:Int)) λx3=>sh (JH x3 x2.1 1) λx4=>sN (ak x0) [.bool a0,aC x3,vi x2.2] λx5=>sh (bY [.bool,.sl,li] (ak x0)) λ(x6:Bool×Sl×Int)=>AI (x6.1,x6.2.1,x6.2.2)
abbrev aeT (n:Nat):dZ:=eN 92 [jF,cB,aw] [.agg [.bool,.sl,.int .i64]] (vz n)
abbrev agT:=L1 [0,0,1] [(0,jF),(1,cB),(2,aw),(6,aG)] [(1,cB)] ([1]++rG 8 11) 0 nO
abbrev agU:=L1 [0,0,1,1] [(0,jF),(1,cB),(2,aw),(6,aG)] [(1,cB),(2,aw)] ([1,2]++rG 19 19) 2 nN
def Ut (n:Nat):=agU.k TZp Tryz.f92 n (hT:=λm _=>.m1 (K1 m))
def Uu (n:Nat):=agT.k TZp Tryz.f92 n (hT:=λm _=>.m1 (K1 m))
def Ge (n:Nat):aH TZp (aeT n):=bg Tryz.f92 (hT:=.m2 (K1 n) (.cc (Uu n) (.cc (Ut n) .nil)))
def qS:uC (ζ->Sl->Int->Int->M Unit):=λG n a0 a1 a2 a3=>if decide (a3<a2) then sh (kF a0 a3) λx0=>iX a1 a3 1 λx1=>sN x1 [.int IntKind.u8 (IntKind.u8.wrap ((↑x0.toNat:Int)-48))] λx2=>G a0 a1 a2 (i64.wrap (a3+1)) else AI ()
def mh:=lp qS
theorem zY (n:Nat):mh (n+1)=qS (mh n) n:=rfl
def um (n:Nat)(a0:ζ):M Sl:=sh (An none gU [.int IntKind.u8 0] (↑a0.size:Int) (↑a0.size:Int)) λx0=>sh (mh n a0 x0 (↑a0.size:Int) 0) λx1=>AI x0
abbrev aeU (n:Nat):dZ:=eN 93 [pX] [cB] (um n)
abbrev agV:=L1 [0,1,0,1,1] [(0,pX),(3,cB),(9,aw),(10,aw)] [] ([4]++rG 10 11) 0 mh
def Uv (n:Nat):=agV.k TZp Tryz.f93 n (hT:=λm _=>.m1 (K1 m))
def E4 (n:Nat):aH TZp (aeU n):=bg Tryz.f93 (hT:=.m2 (K1 n) (.cc (Uv n) .nil))
def oI (n:Nat)(a0:Bool×Sl×Int):M Int:=nW bz [.bool a0.1,aC a0.2.1,vi a0.2.2] λx0=>lS (ak x0) 1 λx1=>if decide (400<(↑x1.len:Int)) then AI 6 else lI (ak x0) 2 λx2=>if decide (x2 < -2000) then AI 2 else lI (ak x0) 2 λx3=>if decide (2000<x3) then AI 2 else AI 0
abbrev aeV (n:Nat):dZ:=eN 94 [.agg [.bool,.sl,.int .i64]] [aw] (oI n)
def AM (n:Nat):aH TZp (aeV n):=bg Tryz.f94 (hT:=.m1 (K1 n))
def pK (n:Nat)(a0:Bool×Sl×Int):M ζ:=nW bz [.bool a0.1,aC a0.2.1,vi a0.2.2] λx0=>lB (ak x0) 0 λx1=>if x1 then AI (ofBytes [45]) else AI (ofBytes [])
abbrev XW (n:Nat):dZ:=eN 152 [.agg [.bool,.sl,.int .i64]] [pX] (pK n)
def BT (n:Nat):aH TZp (XW n):=bg Tryz.f152 (hT:=.m1 (K1 n))
def mi:uC (Sl->Sl->Int->Int->M Unit):=λG n a0 a1 a2 a3=>if decide (a3<a2) then iX a1 a3 1 λx0=>sh (e9 (.int IntKind.u8) x0) λ(x1:Int)=>iX a0 a3 1 λx2=>sN x2 [.int IntKind.u8 (IntKind.u8.wrap (48+x1))] λx3=>G a0 a1 a2 (i64.wrap (a3+1)) else AI ()
def iN:=lp mi
theorem wj (n:Nat):iN (n+1)=mi (iN n) n:=rfl
def mY (n:Nat)(a0:Bool×Sl×Int):M ζ:=nW bz [.bool a0.1,aC a0.2.1,vi a0.2.2] λx0=>lS (ak x0) 1 λx1=>sh (An none gU [.int IntKind.u8 0] (↑x1.len:Int) (↑x1.len:Int)) λx2=>lS (ak x0) 1 λx3=>sh (iN n x2 x3 (↑x3.len:Int) 0) λx4=>sh (strOf x2) λx5=>AI x5
abbrev XX (n:Nat):dZ:=eN 153 [.agg [.bool,.sl,.int .i64]] [pX] (mY n)
abbrev acq:=L1 [0,1,0,1,1] [(3,cB),(11,cB),(12,aw),(13,aw)] [] ([4,5]++rG 13 11) 0 iN
def Qi (n:Nat):=acq.k TZp Tryz.f153 n (hT:=λm _=>.m1 (K1 m))
def zZ (n:Nat):aH TZp (XX n):=bg Tryz.f153 (hT:=.m2 (K1 n) (.cc (Qi n) .nil))
def HV (n a0:Nat):M Bool:=AI !zH a0 a0
abbrev XY (n:Nat):dZ:=eN 158 [.one (.f64)] [jF] (HV n)
def Jl (n:Nat):aH TZp (XY n):=bg Tryz.f158 (hT:=.m1 (K1 n))
abbrev vk:=Addr->Addr->Int->Int->Int->M (Int⊕(Int×Bool))
def mZ (G:vk)(n:Nat)(a0 a1:Addr)(a2 a3 a4:Int):M (Int⊕(Int×Bool)):=eT a1 λx0=>eI a0 λx1=>sh (kF x0 x1) λx2=>eI a0 λx3=>sN a0 [vi (i64.wrap (x3+1))] λx4=>G a0 a1 (i64.wrap (i64.wrap (10*a2)+i64.wrap (IntKind.u8.wrap ((↑x2.toNat:Int)-48)))) a3 (i64.wrap (a4+1))
def jH:uC (vk):=λG n a0 a1 a2 a3 a4=>if decide (a4<a3) then eI a0 λx0=>eT a1 λx1=>if decide ((↑(ByteArray.size x1):Int)<=x0) then AI (Sum.inr (0,false)) else eT a1 λx2=>eI a0 λx3=>sh (kF x2 x3) λx4=>if decide ((↑x4.toNat:Int)<48) then AI (Sum.inr (0,false)) else eT a1 λx5=>eI a0 λx6=>sh (kF x5 x6) λx7=>if decide (57<(↑x7.toNat:Int)) then AI (Sum.inr (0,false)) else mZ G n a0 a1 a2 a3 a4 else AI (Sum.inl a2)
def jn:=lp jH
def AN (n:Nat):=mZ (jn n) n
def oV (n:Nat)(a0:Int)(a1 a2:Addr):M (Int×Bool):=sh (jn n a1 a2 0 a0 0) (dX (λx0=>AI (x0,true)) (λx0=>AI (x0.1,x0.2)))
abbrev XZ (n:Nat):dZ:=eN 106 [aw,aG,aG] [aw,jF] (oV n)
abbrev acr:=L2 [0,1,0,1,1] [(1,aG),(2,aG),(6,aw),(7,aw),(8,aw)] [(6,aw)] [(4,aw),(5,jF)] ([4,5,6]++rG 8 29) 0 .ret jn
abbrev Qj (n:Nat):List (iV (Int⊕(Int×Bool))):=[jN (bL 5323) [.code (bL 7371),.ar 1,.code (bL 971)] [(1,aG),(2,aG),(6,aw),(7,aw),(8,aw)] (AN n)]
def Qk (n:Nat):=acr.k TZp Tryz.f106 n (jt:=Qj) (hT:=λm _=>.m3 (K1 m) (.cc .nil))
def xe (n:Nat):aH TZp (XZ n):=bg Tryz.f106 (hT:=.m2 (K1 n) (.cc (Qk n) .nil))
def yW (n:Nat)(a0:Int):M Bool:=sh (pB (decide (4≠0))) λx0=>if decide (a0.tmod 4=0) then sh (pB (decide (100≠0))) λx1=>if !decide (a0.tmod 100=0) then AI true else sh (pB (decide (400≠0))) λx2=>AI (decide (a0.tmod 400=0)) else AI false
abbrev X0 (n:Nat):dZ:=eN 163 [aw] [jF] (yW n)
def Jm (n:Nat):aH TZp (X0 n):=bg Tryz.f163 (hT:=.m1 (K1 n))
def uD (n:Nat)(a0:Int):M Int:=sh (pB (decide (4≠0))) λx0=>sh (pB (decide (100≠0))) λx1=>sh (pB (decide (400≠0))) λx2=>AI (i64.wrap (i64.wrap (i64.wrap (i64.wrap (365*a0)+i64.wrap ((i64.wrap (a0+3)).tdiv 4))-i64.wrap ((i64.wrap (a0+99)).tdiv 100))+i64.wrap ((i64.wrap (a0+399)).tdiv 400)))
abbrev X1 (n:Nat):dZ:=eN 138 [aw] [aw] (uD n)
def HW (n:Nat):aH TZp (X1 n):=bg Tryz.f138 (hT:=.m1 (K1 n))
def rW:uC (Sl->Addr->Sl->Int->Int->Sl->Int->Int->M Unit):=λG n a0 a1 a2 a3 a4 a5 a6 a7=>if decide (a7<a6) then iX a5 a7 1 λx0=>eI x0 λx1=>iX a0 x1 1 λx2=>eI x2 λx3=>iX a0 x1 1 λx4=>sN x4 [vi (i64.wrap (x3+1))] λx5=>G a0 a1 a2 a3 a4 a5 a6 (i64.wrap (a7+1)) else AI ()
def nP:=lp rW
theorem AO (n:Nat):nP (n+1)=rW (nP n) n:=rfl
def rX:uC (Sl->Sl->Int->Int->Sl->Int->Int->M Unit):=λG n a0 a1 a2 a3 a4 a5 a6=>if decide (a6<a5) then iX a4 a6 1 λx0=>eI x0 λx1=>iX a0 x1 1 λx2=>eI x2 λx3=>iX a0 x1 1 λx4=>sN x4 [vi (i64.wrap (x3+1))] λx5=>G a0 a1 a2 a3 a4 a5 (i64.wrap (a6+1)) else AI ()
def nQ:=lp rX
theorem AP (n:Nat):nQ (n+1)=rX (nQ n) n:=rfl
def rY:uC (Sl->Sl->Int->Int->M Unit):=λG n a0 a1 a2 a3=>if decide (a3<a2) then iX a1 a3 5 λx0=>nL x0 λx1=>nW az [vi 0,.string (ofBytes []),.bool false,aI,aI] λx2=>sN (ak x2) [vi x1.1,.string x1.2.1,.bool x1.2.2.1,aC x1.2.2.2.1,aC x1.2.2.2.2] λx3=>lS (ak x2) 3 λx4=>sh (nP n a0 (ak x2) a1 a2 a3 x4 (↑x4.len:Int) 0) λx5=>lS (ak x2) 4 λx6=>sh (nQ n a0 a1 a2 a3 x6 (↑x6.len:Int) 0) λx7=>G a0 a1 a2 (i64.wrap (a3+1)) else AI ()
def nR:=lp rY
theorem AQ (n:Nat):nR (n+1)=rY (nR n) n:=rfl
def vB (n:Nat)(a0:Sl×Int):M Sl:=nW ah [aC a0.1,vi a0.2] λx0=>lS (ak x0) 0 λx1=>sh (An none au [vi 0] (↑x1.len:Int) (↑x1.len:Int)) λx2=>lI (ak x0) 1 λx3=>iX x2 x3 1 λx4=>eI x4 λx5=>iX x2 x3 1 λx6=>sN x6 [vi (i64.wrap (x5+1))] λx7=>lS (ak x0) 0 λx8=>sh (nR n x2 x8 (↑x8.len:Int) 0) λx9=>AI x2
abbrev aeW (n:Nat):dZ:=eN 31 [.agg [.sl,.int .i64]] [cB] (vB n)
abbrev agW:=L1 (bL 87) [(3,cB),(22,cB),(23,aw),(24,aw)] [] ([5,7,9]++rG 24 33) 0 nR
abbrev agX:=L1 (bL 43415) [(3,cB),(5,aG),(22,cB),(23,aw),(24,aw),(29,cB),(30,aw),(31,aw)] [] ([7]++rG 31 11) 2 nP
abbrev agY:=L1 (bL 47511) [(3,cB),(22,cB),(23,aw),(24,aw),(43,cB),(44,aw),(45,aw)] [] ([9]++rG 45 11) 4 nQ
def Uw (n:Nat):=agX.k TZp Tryz.f31 n (hT:=λm _=>.m1 (K1 m))
def Ux (n:Nat):=agY.k TZp Tryz.f31 n (hT:=λm _=>.m1 (K1 m))
def Uy (n:Nat):=agW.k TZp Tryz.f31 n (hT:=λm _=>.m2 (K1 m) (.cc (Uw m) (.cc (Ux m) .nil)))
def Gf (n:Nat):aH TZp (aeW n):=bg Tryz.f31 (hT:=.m2 (K1 n) (.cc (Uy n) .nil))
structure bA where
 iU:Addr->Addr->Addr->Int->Int->Bool->Sl->Int->Int->Sl->Int->Int->M Bool
 lK:Addr->Addr->Addr->Sl->Int->Int->M (Unit⊕Bool)
 gV:Addr->Addr->Addr->Int->Int->M (Unit⊕Bool)
 jz:(Sl×Int)->Int->Int->M Bool
def uT (G:bA)(n:Nat)(a0 a1 a2:Addr)(a3 a4:Int)(a5:Bool)(a6:Sl)(a7 a8:Int)(a9:Sl)(a10 a11:Int):M Bool:=if decide (a11<a10) then iX a9 a11 1 λx0=>eI x0 λx1=>if a5 then G.iU a0 a1 a2 a3 a4 true a6 a7 a8 a9 a10 (i64.wrap (a11+1)) else gL a0 λx2=>sh (G.jz (x2.1,x2.2) a4 x1) λx3=>if x3 then gL a0 λx4=>lS a1 4 λx5=>iX x5 a3 1 λx6=>eI x6 λx7=>lS a2 4 λx8=>iX x8 a11 1 λx9=>eI x9 λx10=>sh (G.jz (x4.1,x4.2) x7 x10) λx11=>G.iU a0 a1 a2 a3 a4 x11 a6 a7 a8 a9 a10 (i64.wrap (a11+1)) else G.iU a0 a1 a2 a3 a4 false a6 a7 a8 a9 a10 (i64.wrap (a11+1)) else AI a5
def uU (G:bA)(n:Nat)(a0 a1 a2:Addr)(a3:Sl)(a4 a5:Int):M (Unit⊕Bool):=if decide (a5<a4) then iX a3 a5 1 λx0=>eI x0 λx1=>lS a2 3 λx2=>sh (G.iU a0 a1 a2 a5 x1 false a3 a4 a5 x2 (↑x2.len:Int) 0) λx3=>if !x3 then AI (Sum.inr false) else G.lK a0 a1 a2 a3 a4 (i64.wrap (a5+1)) else AI (Sum.inl ())
def uV (G:bA)(n:Nat)(a0 a1 a2:Addr)(a3 a4:Int):M (Unit⊕Bool):=if decide (a4<a3) then lI a1 0 λx0=>if decide (x0=10) then gL a0 λx1=>lS a1 3 λx2=>iX x2 a4 1 λx3=>eI x3 λx4=>lS a2 3 λx5=>iX x5 a4 1 λx6=>eI x6 λx7=>sh (G.jz (x1.1,x1.2) x4 x7) λx8=>if !x8 then AI (Sum.inr false) else gL a0 λx9=>lS a1 4 λx10=>iX x10 a4 1 λx11=>eI x11 λx12=>lS a2 4 λx13=>iX x13 a4 1 λj5=>eI j5 λx15=>sh (G.jz (x9.1,x9.2) x12 x15) λrA=>if !rA then AI (Sum.inr false) else G.gV a0 a1 a2 a3 (i64.wrap (a4+1)) else gL a0 λx1=>lS a1 4 λx2=>iX x2 a4 1 λx3=>eI x3 λx4=>lS a2 4 λx5=>iX x5 a4 1 λx6=>eI x6 λx7=>sh (G.jz (x1.1,x1.2) x4 x7) λx8=>if !x8 then AI (Sum.inr false) else G.gV a0 a1 a2 a3 (i64.wrap (a4+1)) else AI (Sum.inl ())
def uW (G:bA)(n:Nat)(a0 a1 a2:Addr):M Bool:=lI a1 0 λx0=>if decide (x0=10) then lB a1 2 λx1=>if !x1 then lS a1 3 λx2=>sh (G.lK a0 a1 a2 x2 (↑x2.len:Int) 0) (dX (λx3=>AI true) (λx3=>AI x3)) else lS a1 4 λx2=>sh (G.gV a0 a1 a2 (↑x2.len:Int) 0) (dX (λx3=>AI true) (λx3=>AI x3)) else lS a1 4 λx1=>sh (G.gV a0 a1 a2 (↑x1.len:Int) 0) (dX (λx2=>AI true) (λx2=>AI x2))
def yX (G:bA)(n:Nat)(a0:Sl×Int)(a1 a2:Int):M Bool:=nW ah [aC a0.1,vi a0.2] λx0=>sh (eE 14) λx1=>lS (ak x0) 0 λx2=>iX x2 a1 5 λx3=>nL x3 λx4=>lS (ak x0) 0 λx5=>iX x5 a2 5 λx6=>nL x6 λx7=>sh (iR (some (x1+10)) az [vi 0,.string (ofBytes []),.bool false,aI,aI]) λx8=>sh (iR (some (x1+11)) az [vi 0,.string (ofBytes []),.bool false,aI,aI]) λx9=>sh (uw [some ((ak x0).plus 0),some x6] (sU (ak x8) [vi x4.1,.string x4.2.1,.bool x4.2.2.1,aC x4.2.2.2.1,aC x4.2.2.2.2])) λx10=>sN (ak x9) [vi x7.1,.string x7.2.1,.bool x7.2.2.1,aC x7.2.2.2.1,aC x7.2.2.2.2] λx11=>lI (ak x8) 0 λx12=>lI (ak x9) 0 λx13=>if !decide (x12=x13) then AI false else lT (ak x8) 1 λj5=>lT (ak x9) 1 λx15=>if !mM j5 x15 then AI false else lB (ak x8) 2 λrA=>lB (ak x9) 2 λx17=>if !rA==x17 then AI false else lS (ak x8) 4 λw4=>lS (ak x9) 4 λx19=>if !decide ((↑w4.len:Int)=(↑x19.len:Int)) then AI false else uW G n (ak x0) (ak x8) (ak x9)
def bA.at:Nat->bA|0=>⟨λ_ _ _ _ _ _ _ _ _ _ _ _=>AS,λ_ _ _ _ _ _=>AS,λ_ _ _ _ _=>AS,λ_ _ _=>AS⟩|n+1=>⟨uT (bA.at n) n,uU (bA.at n) n,uV (bA.at n) n,yX (bA.at n) n⟩
def iU (n:Nat):=(bA.at n).iU
theorem CQ (n:Nat):iU (n+1)=uT (bA.at n) n:=rfl
def lK (n:Nat):=(bA.at n).lK
theorem CR (n:Nat):lK (n+1)=uU (bA.at n) n:=rfl
def gV (n:Nat):=(bA.at n).gV
theorem CT (n:Nat):gV (n+1)=uV (bA.at n) n:=rfl
def jz (n:Nat):=(bA.at n).jz
theorem Gg (n:Nat):jz (n+1)=yX (bA.at n) n:=rfl
def Jn (n:Nat):=uW (bA.at n) n
abbrev X3 (n:Nat):dZ:=eN 48 [.agg [.sl,.int .i64],aw,aw] [jF] (jz n)
abbrev agZ:=L2 (bL 663) [(3,aG),(7,aG),(8,aG),(62,cB),(63,aw),(64,aw)] [] [(6,jF)] ([6]++rG 9 5++rG 64 38) 0 .ret lK
abbrev ag0:=L1 (bL 707735) [(3,aG),(7,aG),(8,aG),(9,aw),(10,aw),(11,jF),(62,cB),(63,aw),(64,aw),(70,cB),(71,aw),(72,aw)] [(11,jF)] ([11,12,13]++rG 72 27) 2 iU
abbrev ag1:=L2 (bL 175) [(3,aG),(7,aG),(8,aG),(104,aw),(105,aw)] [] [(6,jF)] ([6,14]++rG 105 37) 4 .ret gV
abbrev C2 (n:Nat):List dZ:=X3 n::C1 n
def Lz:=dR [(1,[0,2,5,7,1,3,4,6,8,9,10,11,10007012,13]),(12,[0,1,3,4,2,5,6,8,10,13,15,7,9,11,12,14]++rG 16 6),(21,[0,1,2,3,5,7,10,12,4,6,8,9,11]++rG 13 6++[20,22,25,27,19,21,23,24,26]++rG 28 5)]
abbrev ag2 (n:Nat):List (iV Bool):=[jN [0,0,1,1,1] [.code [1,0,1,1,1],.code [1,1,1,1]] [(3,aG),(7,aG),(8,aG)] (Jn n)]
def na (n:Nat):Prop:=aH TZp (X3 n)
def X4 (n:Nat)(H:na n):eY TZp (C2 n):=.cons H (K1 n)
def Uz (n:Nat)(H:Hy na n):=ag0.k TZp Tryz.f48 n (dr:=Lz) (hT:=λm hm=>.m1 (X4 m ((H.d hm).s)))
def UA (n:Nat)(H:Hy na n):=agZ.k TZp Tryz.f48 n (dr:=Lz) (hT:=λm hm=>.m2 (X4 m ((H.d hm).s)) (.cc (Uz m (H.d hm)) .nil))
def UB (n:Nat)(H:Hy na n):=ag1.k TZp Tryz.f48 n (dr:=Lz) (hT:=λm hm=>.m1 (X4 m ((H.d hm).s)))
def CU (n:Nat)(H:Hy na n):aH TZp (X3 (n+1)):=bg Tryz.f48 (dr:=Lz) (js:=ag2 n) (hT:=⟨.nil,X4 n (H.s),.nil,(.cc (UA n H) (.cc (UB n H) .nil)),(.cc .nil)⟩)
def E5 (n:Nat):na n:=NT (Q:=na) (gR Tryz.f48) CU n
def K2 (n:Nat):eY TZp (C2 n):=X4 n (E5 n)
structure aA where
 eH:Addr->Addr->Addr->Addr->Addr->Int->M Int
 eJ:Addr->Addr->Addr->Addr->Addr->Addr->Addr->ο->Sl->Int->Int->M Unit
 eK:Addr->Addr->Addr->Addr->Addr->Addr->Addr->Addr->ο->Sl->Int->Int->M Unit
 gE:Int->Addr->Addr->Addr->Addr->Addr->Addr->Addr->Addr->Addr->M Unit
 gJ:Int->Addr->Addr->Addr->Addr->Addr->M Unit
def fY (G:aA)(n:Nat)(x:ο)(a0:Int):M Unit:=if rC jP x then sh (qj [aG,aG,aG,aG,aG] x) λ(c:Addr×Addr×Addr×Addr×Addr)=>G.gJ a0 c.1 c.2.1 c.2.2.1 c.2.2.2.1 c.2.2.2.2 else AS
abbrev lL:=fY
def j8 (G:aA)(n:Nat)(x:ο)(a0:Int):M Unit:=if rC kZ x then sh (qj [aG,aG,aG,aG,aG,aG,aG,aG,aG] x) λ(c:Addr×Addr×Addr×Addr×Addr×Addr×Addr×Addr×Addr)=>G.gE a0 c.1 c.2.1 c.2.2.1 c.2.2.2.1 c.2.2.2.2.1 c.2.2.2.2.2.1 c.2.2.2.2.2.2.1 c.2.2.2.2.2.2.2.1 c.2.2.2.2.2.2.2.2 else AS
def mj (G:aA)(n:Nat)(a0 a1 a2 a3 a4:Addr)(a5:Int):M Int:=eS a0 λx0=>eS a0 λx1=>iX x0 (i64.wrap ((↑x1.len:Int)-1)) 1 λx2=>eI x2 λx3=>eS a0 λx4=>eS a0 λx5=>sh (mU x4 0 (i64.wrap ((↑x5.len:Int)-1)) au 1) λx6=>sN a0 [aC x6] λx7=>eS a1 λx8=>iX x8 x3 1 λx9=>sN x9 [.bool false] λx10=>eS a3 λx11=>eS a2 λx12=>iX x11 x3 1 λx13=>sN x13 [vi (↑x12.len:Int)] λj5=>eI a4 λx15=>if decide (x3=x15) then AI (i64.wrap (a5+1)) else G.eH a0 a1 a2 a3 a4 (i64.wrap (a5+1))
def ml (G:aA)(n:Nat)(a0 a1 a2 a3 a4 a5 a6:Addr)(a7:ο)(a8:Sl)(a9 a10:Int):M Unit:=if decide (a10<a9) then iX a8 a10 1 λx0=>eI x0 λx1=>sh (lL G n a7 x1) λx2=>G.eJ a0 a1 a2 a3 a4 a5 a6 a7 a8 a9 (i64.wrap (a10+1)) else AI ()
def mm (G:aA)(n:Nat)(a0 a1 a2 a3 a4 a5 a6 a7:Addr)(a8:ο)(a9:Sl)(a10 a11:Int):M Unit:=if decide (a11<a10) then iX a9 a11 1 λx0=>eI x0 λx1=>sh (fY G n a8 x1) λx2=>G.eK a0 a1 a2 a3 a4 a5 a6 a7 a8 a9 a10 (i64.wrap (a11+1)) else AI ()
def oW (G:aA)(n:Nat)(a0:Int)(a1 a2 a3 a4 a5 a6 a7 a8 a9:Addr):M Unit:=nW au [vi a0] λx0=>eI a1 λx1=>sN a1 [vi (i64.wrap (x1+1))] λx2=>eS a2 λx3=>sh (e9 li (ak x0)) λ(x4:Int)=>eS a3 λx5=>sh (e9 li (ak x0)) λ(x6:Int)=>eI a1 λx7=>iX x3 x4 1 λx8=>eI a1 λx9=>sh (uw [some a3,some (ak x0),some a1] (sU x8 [vi x7])) λx10=>iX x5 x6 1 λx11=>sN x11 [vi x9] λx12=>eS a4 λx13=>sh (e9 li (ak x0)) λ(j5:Int)=>sh (app false x13 1 au 1 [vi j5]) λx15=>sN a4 [aC x15] λrA=>eS a5 λx17=>sh (e9 li (ak x0)) λ(w4:Int)=>iX x17 w4 1 λx19=>sN x19 [.bool true] λx20=>lS a7 0 λx21=>sh (e9 li (ak x0)) λ(x22:Int)=>iX x21 x22 5 λx23=>lS x23 3 λx24=>sh (G.eK a2 a3 a4 a5 a7 a8 a9 (ak x0) (Value.func (Fn.func jP) #[] #[.pointer (some a2),.pointer (some a6),.pointer (some a3),.pointer (some (ak x0)),.pointer (some a5)]) x24 (↑x24.len:Int) 0) λx25=>lS a7 0 λx26=>sh (e9 li (ak x0)) λ(x27:Int)=>iX x26 x27 5 λx28=>lS x28 4 λx29=>sh (G.eJ a2 a3 a4 a5 a8 a9 (ak x0) (Value.func (Fn.func jP) #[] #[.pointer (some a2),.pointer (some a6),.pointer (some a3),.pointer (some (ak x0)),.pointer (some a5)]) x29 (↑x29.len:Int) 0) λx30=>eS a3 λx31=>sh (e9 li (ak x0)) λ(x32:Int)=>iX x31 x32 1 λx33=>eI x33 λx34=>eS a2 λx35=>sh (e9 li (ak x0)) λ(x36:Int)=>iX x35 x36 1 λx37=>eI x37 λx38=>if !decide (x34=x38) then AI () else sh (G.eH a4 a5 a8 a9 (ak x0) 0) λx39=>eS a8 λx40=>sh (app false x40 1 au 1 [vi x39]) λx41=>sN a8 [aC x41] λx42=>AI ()
def nf (G:aA)(n:Nat)(a0:Int)(a1 a2 a3 a4 a5:Addr):M Unit:=eS a1 λx0=>iX x0 a0 1 λx1=>eI x1 λx2=>if decide (x2=0) then sh (e9 .raw a2) λ(x3:ο)=>sh (j8 G n x3 a0) λx4=>eS a3 λx5=>eI a4 λx6=>eS a3 λx7=>eI a4 λx8=>iX x7 x8 1 λx9=>eI x9 λx10=>eS a3 λx11=>iX x11 a0 1 λx12=>eI x12 λx13=>iX x5 x6 1 λj5=>sN j5 [vi (if x13<x10 then x13 else x10)] λx15=>AI () else eS a5 λx3=>iX x3 a0 1 λx4=>eB x4 λx5=>if x5 then eS a3 λx6=>eI a4 λx7=>eS a3 λx8=>eI a4 λx9=>iX x8 x9 1 λx10=>eI x10 λx11=>eS a1 λx12=>iX x12 a0 1 λx13=>eI x13 λj5=>iX x6 x7 1 λx15=>sN x15 [vi (if j5<x11 then j5 else x11)] λrA=>AI () else AI ()
def aA.at:Nat->aA|0=>⟨λ_ _ _ _ _ _=>AS,λ_ _ _ _ _ _ _ _ _ _ _=>AS,λ_ _ _ _ _ _ _ _ _ _ _ _=>AS,λ_ _ _ _ _ _ _ _ _ _=>AS,λ_ _ _ _ _ _=>AS⟩|n+1=>⟨mj (aA.at n) n,ml (aA.at n) n,mm (aA.at n) n,oW (aA.at n) n,nf (aA.at n) n⟩
def eH (n:Nat):=(aA.at n).eH
theorem wm (n:Nat):eH (n+1)=mj (aA.at n) n:=rfl
def eJ (n:Nat):=(aA.at n).eJ
theorem wo (n:Nat):eJ (n+1)=ml (aA.at n) n:=rfl
def eK (n:Nat):=(aA.at n).eK
theorem wq (n:Nat):eK (n+1)=mm (aA.at n) n:=rfl
def gE (n:Nat):=(aA.at n).gE
theorem yg (n:Nat):gE (n+1)=oW (aA.at n) n:=rfl
def gJ (n:Nat):=(aA.at n).gJ
theorem wV (n:Nat):gJ (n+1)=nf (aA.at n) n:=rfl
def yY (n:Nat):=fY (aA.at n) n
def yZ (n:Nat):=lL (aA.at n) n
def xD (n:Nat):=j8 (aA.at n) n
abbrev RZ (n:Nat):dZ:=eN 62 [aw,aG,aG,aG,aG,aG,aG,aG,aG,aG] [] (gE n)
abbrev ag3:=L1 (bL 703) [(2,aG),(3,aG),(4,aG),(5,aG),(7,aG),(8,aG),(9,aG),(10,aG),(11,tG),(41,cB),(42,aw),(43,aw)] [] ([13]++rG 43 8) 0 eK
abbrev ag4:=L1 (bL 1407) [(2,aG),(3,aG),(4,aG),(5,aG),(8,aG),(9,aG),(10,aG),(11,tG),(56,cB),(57,aw),(58,aw)] [] ([15]++rG 58 8) 2 eJ
abbrev ag5:=L1 (bL 5119) [(4,aG),(5,aG),(8,aG),(9,aG),(10,aG),(16,aw)] [(16,aw)] ([16,17]++rG 75 24) 4 eH
abbrev X5 (n:Nat):dZ:=eN 63 [aw,aG,aG,aG,aG,aG] [] (gJ n)
abbrev C3 (n:Nat):List dZ:=RZ n::X5 n::C2 n
abbrev ag6 (n:Nat):List ru:=[dN 47 [aw] [] (yY n), dN 62 [aw] [] (yZ n)]
def LA:=dR [(2,rG 0 5++[6,5,6004003007,8,9]),(16,rG 0 9)]
abbrev ag7 (n:Nat):List ru:=[dN 12 [aw] [] (xD n)]
def ag8:=dR [(2,[7]++rG 0 7++rG 8 5),(4,[7]++rG 0 7++rG 8 5)]
def cH (n:Nat):Prop:=aH TZp (RZ n)/\aH TZp (X5 n)
def UC (n:Nat)(H:cH n):eY TZp (C3 n):=.cons H.1 (.cons H.2 (K2 n))
def LC (n:Nat)(H:cH n):qO TZp (ag6 n):=.cons (dj (.cons (oQ [aG,aG,aG,aG,aG] (H).2) .nil)) (.cons (dj (.cons (oQ [aG,aG,aG,aG,aG] (H).2) .nil)) .nil)
def UD (n:Nat)(H:Hy cH n):=ag5.k TZp Tryz.f62 n (dr:=LA) (hT:=λm hm=>⟨.nil,UC m ((H.d hm).s),(LC m ((H.d hm).s)),.nil,.nil⟩)
def UE (n:Nat)(H:Hy cH n):=ag4.k TZp Tryz.f62 n (dr:=LA) (hT:=λm hm=>⟨.nil,UC m ((H.d hm).s),(LC m ((H.d hm).s)),.nil,.nil⟩)
def UF (n:Nat)(H:Hy cH n):=ag3.k TZp Tryz.f62 n (dr:=LA) (hT:=λm hm=>⟨.nil,UC m ((H.d hm).s),(LC m ((H.d hm).s)),.nil,.nil⟩)
def wu (n:Nat)(H:Hy cH n):aH TZp (RZ (n+1)):=bg Tryz.f62 (dr:=LA) (hT:=⟨.nil,UC n (H.s),(LC n (H.s)),(.cc (UF n H) (.cc (UE n H) (.cc (UD n H) .nil))),.nil⟩)
def ag9 (n:Nat)(H:cH n):qO TZp (ag7 n):=.cons (dj (.cons (oQ [aG,aG,aG,aG,aG,aG,aG,aG,aG] (H).1) .nil)) .nil
def uX (n:Nat)(H:Hy cH n):aH TZp (X5 (n+1)):=bg Tryz.f63 (dr:=ag8) (hT:=⟨.nil,UC n (H.s),(ag9 n (H.s)),.nil,.nil⟩)
def qm (n:Nat):cH n:=NT (Q:=cH) ⟨gR Tryz.f62,gR Tryz.f63⟩ (λk h=>⟨wu k h,uX k h⟩) n
def Aa (n:Nat):aH TZp (RZ n):=(qm n).1
def K3 (n:Nat):eY TZp (C3 n):=UC n (qm n)
def AR (n:Nat)(a0:Sl×Int):M (θ):=nW ah [aC a0.1,vi a0.2] λx0=>sh (eE 8) λx1=>gL (ak x0) λx2=>lS (ak x0) 0 λx3=>sh (An (some (x1+4)) aJ [aI] (↑x3.len:Int) (↑x3.len:Int)) λx4=>sh (iR (some (x1+6)) dB [aC x2.1,vi x2.2,aC x4]) λx5=>AI (some (ak x5))
abbrev aeX (n:Nat):dZ:=eN 23 [.agg [.sl,.int .i64]] [vS] (AR n)
def aha:=dR [(1,[1,0]++rG 2 6)]
def Of (n:Nat):aH TZp (aeX n):=bg Tryz.f23 (dr:=aha) (hT:=.m1 (K3 n))
def rZ:uC (Sl->Sl->Int->M (Unit⊕Int)):=λG n a0 a1 a2=>if decide (0<=a2) then iX a0 a2 1 λx0=>iX a1 a2 1 λx1=>sh (e9 (.int IntKind.u8) x0) λ(x2:Int)=>sh (e9 (.int IntKind.u8) x1) λ(x3:Int)=>if !decide (x2=x3) then iX a0 a2 1 λx4=>iX a1 a2 1 λx5=>sh (e9 (.int IntKind.u8) x4) λ(x6:Int)=>sh (e9 (.int IntKind.u8) x5) λ(x7:Int)=>if decide (x6<x7) then AI (Sum.inr (-1)) else AI (Sum.inr 1) else G a0 a1 (i64.wrap (a2-1)) else AI (Sum.inl ())
def nS:=lp rZ
theorem AU (n:Nat):nS (n+1)=rZ (nS n) n:=rfl
def r9 (n:Nat)(a0 a1:Sl):M Int:=if !decide ((↑a0.len:Int)=(↑a1.len:Int)) then if decide ((↑a0.len:Int)<(↑a1.len:Int)) then AI (-1) else AI 1 else sh (nS n a0 a1 (i64.wrap ((↑a0.len:Int)-1))) (dX (λx0=>AI 0) (λx0=>AI x0))
abbrev X6 (n:Nat):dZ:=eN 142 [cB,cB] [aw] (r9 n)
abbrev acs:=L2 [0,1,0,1,1] [(0,cB),(1,cB),(5,aw)] [] [(4,aw)] ([4,5]++rG 19 22) 0 .ret nS
def R4:=dR [(8,[0,1,2,4,5,6,3,7,8]),(9,[0,1,2,4,5,6,3,7,8])]
def Ql (n:Nat):=acs.k TZp Tryz.f142 n (dr:=R4) (hT:=λm _=>.m1 (K3 m))
def Gh (n:Nat):aH TZp (X6 n):=bg Tryz.f142 (dr:=R4) (hT:=.m2 (K3 n) (.cc (Ql n) .nil))
def uo (n:Nat)(a0:Int):M Int:=if decide (a0<0) then AI (-1) else if decide (0<a0) then AI 1 else AI 0
abbrev X7 (n:Nat):dZ:=eN 169 [aw] [aw] (uo n)
def E6 (n:Nat):aH TZp (X7 n):=bg Tryz.f169 (hT:=.m1 (K3 n))
def iY (n:Nat)(a0:Bool×Sl×Int)(a1:Int):M Int:=nW bz [.bool a0.1,aC a0.2.1,vi a0.2.2] λx0=>lS (ak x0) 1 λx1=>if decide (a1<(↑x1.len:Int)) then lS (ak x0) 1 λx2=>iX x2 a1 1 λx3=>sh (e9 (.int IntKind.u8) x3) λ(x4:Int)=>AI x4 else AI 0
abbrev X8 (n:Nat):dZ:=eN 189 [.agg [.bool,.sl,.int .i64],aw] [.one (.int .u8)] (iY n)
def mr (n:Nat):aH TZp (X8 n):=bg Tryz.f189 (hT:=.m1 (K3 n))
def lh (n:Nat)(a0:θ):M Int:=sh (nn a0) λx0=>sh (nn a0) λx1=>sh (e9 (.int IntKind.u64) x0) λ(x2:Int)=>sh (e9 (.int IntKind.u64) x1) λ(x3:Int)=>sh (pB (decide (0<=13))) λx4=>sh (nn a0) λx5=>sN x5 [.int IntKind.u64 (IntKind.u64.wrap (↑(BitVec.ofInt 64 x2^^^BitVec.ofInt 64 (IntKind.u64.wrap (x3*2^13))).toNat:Int))] λx6=>sh (nn a0) λx7=>sh (nn a0) λx8=>sh (e9 (.int IntKind.u64) x7) λ(x9:Int)=>sh (e9 (.int IntKind.u64) x8) λ(x10:Int)=>sh (pB (decide (0<=7))) λx11=>sh (nn a0) λx12=>sN x12 [.int IntKind.u64 (IntKind.u64.wrap (↑(BitVec.ofInt 64 x9^^^BitVec.ofInt 64 (Int.fdiv x10 (2^7))).toNat:Int))] λx13=>sh (nn a0) λj5=>sh (nn a0) λx15=>sh (e9 (.int IntKind.u64) j5) λ(rA:Int)=>sh (e9 (.int IntKind.u64) x15) λ(x17:Int)=>sh (pB (decide (0<=17))) λw4=>sh (nn a0) λx19=>sN x19 [.int IntKind.u64 (IntKind.u64.wrap (↑(BitVec.ofInt 64 rA^^^BitVec.ofInt 64 (IntKind.u64.wrap (x17*2^17))).toNat:Int))] λx20=>sh (nn a0) λx21=>sh (e9 (.int IntKind.u64) x21) λ(x22:Int)=>AI x22
abbrev X9 (n:Nat):dZ:=eN 113 [vS] [.one (.int .u64)] (lh n)
def acu:=dR [(1,[0,1,3,4,2]++rG 5 5),(2,[0,1,3,4,2]++rG 5 5),(3,[0,1,3,4,2]++rG 5 5)]
def yh (n:Nat):aH TZp (X9 n):=bg Tryz.f113 (dr:=acu) (hT:=.m1 (K3 n))
def cI:uC (Sl->Int->Int->M Unit):=λG n a0 a1 a2=>if decide (a1<a2) then iX a0 a2 1 λx0=>iX a0 a1 1 λx1=>eI x0 λx2=>eI x1 λx3=>iX a0 a1 1 λx4=>sN x4 [vi x2] λx5=>iX a0 a2 1 λx6=>sN x6 [vi x3] λx7=>G a0 (i64.wrap (a1+1)) (i64.wrap (a2-1)) else AI ()
def cY:=lp cI
def fF (n:Nat)(a0:Sl)(a1 a2:Int)(a3:ο):M Unit:=sh (cY n a0 a1 (i64.wrap (a2-1))) λx0=>AI ()
abbrev aeY (n:Nat):dZ:=eN 81 [cB,aw,aw,tG] [] (fF n)
abbrev ahb:=L1 [0,1,1] [(0,cB),(8,aw),(9,aw)] [] ([8,9]++rG 13 21) 0 cY
def Ya:=dR [(3,rG 0 7++[8,9,10,7]++rG 11 5)]
def UG (n:Nat):=ahb.k TZp Tryz.f81 n (dr:=Ya) (hT:=λm _=>.m1 (K3 m))
def rv (n:Nat):aH TZp (aeY n):=bg Tryz.f81 (dr:=Ya) (hT:=.m2 (K3 n) (.cc (UG n) .nil))
def ie (n:Nat)(a0:θ):M ζ:=sh (nn a0) λx0=>sh (nn a0) λx1=>lS x0 1 λx2=>sh (FH x2.a x2.len) λx3=>lS x1 1 λx4=>sh (abC gU x3 (↑x4.len:Int)) λx5=>AI x5
abbrev aeZ (n:Nat):dZ:=eN 26 [vS] [pX] (ie n)
def ahc:=dR [(1,[0,1,2,5,6,7,3,4,8,9,10,11])]
def wW (n:Nat):aH TZp (aeZ n):=bg Tryz.f26 (dr:=ahc) (hT:=.m1 (K3 n))
def sd:uC (Addr->Sl->Sl->Int->Int->M Unit):=λG n a0 a1 a2 a3 a4=>if decide (a4<a3) then iX a2 a4 1 λx0=>eI x0 λx1=>eS a0 λx2=>iX x2 x1 1 λx3=>eI x3 λx4=>iX a1 a4 1 λx5=>sN x5 [vi x4] λx6=>G a0 a1 a2 a3 (i64.wrap (a4+1)) else AI ()
def nT:=lp sd
theorem AV (n:Nat):nT (n+1)=sd (nT n) n:=rfl
def se (n:Nat)(a0:Sl)(a1:Addr):M Sl:=sh (An none au [vi 0] (↑a0.len:Int) (↑a0.len:Int)) λx0=>sh (nT n a1 x0 a0 (↑a0.len:Int) 0) λx1=>AI x0
abbrev ae0 (n:Nat):dZ:=eN 44 [cB,aG] [cB] (se n)
abbrev ahd:=L1 [0,1,0,1,1] [(1,aG),(4,cB),(10,cB),(11,aw),(12,aw)] [] ([5,6]++rG 12 13) 0 nT
def UH (n:Nat):=ahd.k TZp Tryz.f44 n (hT:=λm _=>.m1 (K3 m))
def uY (n:Nat):aH TZp (ae0 n):=bg Tryz.f44 (hT:=.m2 (K3 n) (.cc (UH n) .nil))
def iz (n:Nat)(a0:ζ):M (Int×ζ×Bool×Sl×Sl):=nW az [vi 0,.string (ofBytes []),.bool false,aI,aI] λx0=>sN (ak x0) [vi 2,.string a0,.bool false,aI,aI] λx1=>nL (ak x0) λx2=>AI (x2.1,x2.2.1,x2.2.2.1,x2.2.2.2.1,x2.2.2.2.2)
abbrev ae1 (n:Nat):dZ:=eN 14 [pX] [.agg [.int .i64,.str,.bool,.sl,.sl]] (iz n)
def y7 (n:Nat):aH TZp (ae1 n):=bg Tryz.f14 (hT:=.m1 (K3 n))
def wv:uC (Sl->Sl->Int->M (Unit⊕Bool)):=λG n a0 a1 a2=>if decide (a2<(↑a0.len:Int)) then iX a0 a2 2 λx0=>iX a1 a2 2 λx1=>sh (bY [li,.str] x0) λ(x2:Int×ζ)=>sh (bY [li,.str] x1) λ(x3:Int×ζ)=>if !(decide (x2.1=x3.1)&&(mM x2.2 x3.2&&true)) then AI (Sum.inr false) else G a0 a1 (i64.wrap (a2+1)) else AI (Sum.inl ())
def qn:=lp wv
def tA (n:Nat)(a0 a1:Sl):M Bool:=if !decide ((↑a0.len:Int)=(↑a1.len:Int)) then AI false else sh (qn n a0 a1 0) (dX (λx0=>AI true) (λx0=>AI x0))
abbrev ae2 (n:Nat):dZ:=eN 15 [cB,cB] [jF] (tA n)
abbrev ahe:=L2 [0,1,0,1,1] [(0,cB),(1,cB),(5,aw)] [] [(4,jF)] ([4,5]++rG 11 15) 0 .ret qn
def Yb:=dR [(6,[0,1,2,4,5,6,3,7,8])]
def UI (n:Nat):=ahe.k TZp Tryz.f15 n (dr:=Yb) (hT:=λm _=>.m1 (K3 m))
def xE (n:Nat):aH TZp (ae2 n):=bg Tryz.f15 (dr:=Yb) (hT:=.m2 (K3 n) (.cc (UI n) .nil))
abbrev tB:=Addr->Int->Int->Int->M ((Int×Int)⊕Bool)
def lM (G:tB)(n:Nat)(a0:Addr)(a1 a2 a3:Int)(a4:Addr):M ((Int×Int)⊕Bool):=lS a4 3 λx0=>lS a4 4 λx1=>lT a4 1 λx2=>G a0 (i64.wrap (a1+i64.wrap ((↑x0.len:Int)+(↑x1.len:Int)))) (i64.wrap (a2+(↑(ByteArray.size x2):Int))) (i64.wrap (a3+1))
def ow:uC (tB):=λG n a0 a1 a2 a3=>lS a0 0 λx0=>if decide (a3<(↑x0.len:Int)) then lS a0 0 λx1=>iX x1 a3 5 λx2=>nL x2 λx3=>nW az [vi 0,.string (ofBytes []),.bool false,aI,aI] λx4=>sN (ak x4) [vi x3.1,.string x3.2.1,.bool x3.2.2.1,aC x3.2.2.2.1,aC x3.2.2.2.2] λx5=>lT (ak x4) 1 λx6=>if decide (100<(↑(ByteArray.size x6):Int)) then AI (Sum.inr false) else lS (ak x4) 3 λx7=>if decide (80<(↑x7.len:Int)) then AI (Sum.inr false) else lS (ak x4) 4 λx8=>if decide (80<(↑x8.len:Int)) then AI (Sum.inr false) else lM G n a0 a1 a2 a3 (ak x4) else AI (Sum.inl (a1,a2))
def iA:=lp ow
theorem xF (n:Nat):iA (n+1)=ow (iA n) n:=rfl
def y8 (n:Nat):=lM (iA n) n
def jX (n:Nat)(a0:Sl×Int):M Bool:=nW ah [aC a0.1,vi a0.2] λx0=>lS (ak x0) 0 λx1=>if decide (40<(↑x1.len:Int)) then AI false else sh (iA n (ak x0) 0 0 0) (dX (λx2=>if decide (x2.1<=240) then AI (decide (x2.2<=300)) else AI false) (λx2=>AI x2))
abbrev amx (n:Nat):dZ:=eN 6 [.agg [.sl,.int .i64]] [jF] (jX n)
abbrev akV:=L2 (bL 87) [(1,aG),(3,aw),(4,aw),(5,aw)] [(3,aw),(4,aw)] [(2,jF)] (rG 2 5++rG 11 42) 0 .ret iA
abbrev Yc (n:Nat):List (iV ((Int×Int)⊕Bool)):=[jN (bL 11415) [.code (bL 15511),.ar 1,.code (bL 919)] [(1,aG),(3,aw),(4,aw),(5,aw),(6,aG)] (y8 n)]
def Yd (n:Nat):=akV.k TZp Tryz.f6 n (jt:=Yc) (hT:=λm _=>.m3 (K3 m) (.cc .nil))
def BU (n:Nat):aH TZp (amx n):=bg Tryz.f6 (hT:=.m2 (K3 n) (.cc (Yd n) .nil))
def kM:uC (Sl->Sl->Int->Int->M (Unit⊕Bool)):=λG n a0 a1 a2 a3=>if decide (a3<a2) then iX a0 a3 1 λx0=>iX a1 a3 1 λx1=>eI x0 λx2=>eI x1 λx3=>if !decide (x2=x3) then AI (Sum.inr false) else G a0 a1 a2 (i64.wrap (a3+1)) else AI (Sum.inl ())
def gM:=lp kM
theorem uZ (n:Nat):gM (n+1)=kM (gM n) n:=rfl
def iZ (n:Nat)(a0 a1:Sl):M Bool:=if !decide ((↑a0.len:Int)=(↑a1.len:Int)) then AI false else sh (gM n a0 a1 (↑a0.len:Int) 0) (dX (λx0=>AI true) (λx0=>AI x0))
abbrev ae3 (n:Nat):dZ:=eN 20 [cB,cB] [jF] (iZ n)
abbrev ahf:=L2 [0,1,0,1,1] [(0,cB),(1,cB),(12,aw),(13,aw)] [] [(4,jF)] ([4,5]++rG 13 13) 0 .ret gM
def Ye:=dR [(6,[0,1,2,4,5,6,3,7,8])]
def UJ (n:Nat):=ahf.k TZp Tryz.f20 n (dr:=Ye) (hT:=λm _=>.m1 (K3 m))
def yi (n:Nat):aH TZp (ae3 n):=bg Tryz.f20 (dr:=Ye) (hT:=.m2 (K3 n) (.cc (UJ n) .nil))
def tH (n:Nat)(x:ο)(a0:Int):M Unit:=if rC oH x then sh (qj [aG,aG,aG] x) λ(c:Addr×Addr×Addr)=>jy n a0 c.1 c.2.1 c.2.2 else AS
def oi (n:Nat)(a0:Sl×Int)(a1:Int)(a2:Sl):M Unit:=nW ah [aC a0.1,vi a0.2] λx0=>nW Bz [aC a2] λx1=>nW yS [Value.nilFunc] λx2=>sN (ak x2) [.func (Fn.func oH) #[] #[.pointer (some (ak x1)),.pointer (some (ak x0)),.pointer (some (ak x2))]] λx3=>sh (e9 .raw (ak x2)) λ(x4:ο)=>sh (tH n x4 a1) λx5=>AI ()
abbrev ae4 (n:Nat):dZ:=eN 29 [.agg [.sl,.int .i64],aw,cB] [] (oi n)
abbrev ahg (n:Nat):List ru:=[dN 8 [aw] [] (tH n)]
def ahh (n:Nat):qO TZp (ahg n):=.cons (dj (.cons (oQ [aG,aG,aG] (CP n)) .nil)) .nil
def E7 (n:Nat):aH TZp (ae4 n):=bg Tryz.f29 (hT:=⟨.nil,K3 n,(ahh n),.nil,.nil⟩)
abbrev C4 (n:Nat):List dZ:=aeQ n::aeR n::aeS n::aeT n::aeU n::aeV n::XW n::XX n::XY n::XZ n::X0 n::X1 n::aeW n::aeX n::X6 n::X7 n::X8 n::X9 n::aeY n::aeZ n::ae0 n::ae1 n::ae2 n::ae3 n::ae4 n::C3 n
def K4 (n:Nat):eY TZp (C4 n):=.cons (EZ n) (.cons (Jk n) (.cons (Gd n) (.cons (Ge n) (.cons (E4 n) (.cons (AM n) (.cons (BT n) (.cons (zZ n) (.cons (Jl n) (.cons (xe n) (.cons (Jm n) (.cons (HW n) (.cons (Gf n) (.cons (Of n) (.cons (Gh n) (.cons (E6 n) (.cons (mr n) (.cons (yh n) (.cons (rv n) (.cons (wW n) (.cons (uY n) (.cons (y7 n) (.cons (xE n) (.cons (yi n) (.cons (E7 n) (K3 n)))))))))))))))))))))))))
abbrev xf:=Addr->Addr->ζ->Int->Int->M (Unit⊕Bool)
def oX (G:xf)(n:Nat)(a0 a1:Addr)(a2:ζ)(a3 a4 a5:Int):M (Unit⊕Bool):=sh (kF a2 a3) λx0=>lS a1 1 λx1=>iX x1 (i64.wrap (i64.wrap ((↑a2.size:Int)-1)-a3)) 1 λx2=>sN x2 [.int IntKind.u8 (IntKind.u8.wrap ((↑x0.toNat:Int)-48))] λx3=>G a0 a1 a2 a4 (i64.wrap (a5+1))
def sf:uC (xf):=λG n a0 a1 a2 a3 a4=>if decide (a4<a3) then sh (kF a2 a4) λx0=>if decide ((↑x0.toNat:Int)<48) then sN a0 [.bool false,aI] λx1=>AI (Sum.inr false) else sh (kF a2 a4) λx1=>if decide (57<(↑x1.toNat:Int)) then sN a0 [.bool false,aI] λx2=>AI (Sum.inr false) else oX G n a0 a1 a2 a4 a3 a4 else AI (Sum.inl ())
def kR:=lp sf
theorem AW (n:Nat):kR (n+1)=sf (kR n) n:=rfl
def CV (n:Nat):=oX (kR n) n
def kS (n:Nat)(a0 a1:Addr)(a2:ζ):M ((Bool×Sl)×Bool):=sh (An none gU [.int IntKind.u8 0] (↑a2.size:Int) (↑a2.size:Int)) λx0=>sN (a1.plus 1) [aC x0] λx1=>sh (kR n a0 a1 a2 (↑a2.size:Int) 0) (dX (λx2=>lS a1 1 λx3=>sh (yV n x3) λx4=>sN (a1.plus 1) [aC x4] λx5=>sh (bY [.bool,.sl] a1) λ(x6:Bool×Sl)=>sN a0 [.bool x6.1,aC x6.2] λx7=>sh (bY [.bool,.sl] a0) λ(x8:Bool×Sl)=>AI ((x8.1,x8.2),true)) (λx2=>sh (bY [.bool,.sl] a0) λ(x3:Bool×Sl)=>AI ((x3.1,x3.2),x2)))
def jA (n:Nat)(a0:ζ)(a1 a2:Addr)(a3:ζ):M ((Bool×Sl)×Bool):=if decide ((↑a3.size:Int)=0) then sN a1 [.bool false,aI] λx0=>sh (bY [.bool,.sl] a1) λ(x1:Bool×Sl)=>AI ((x1.1,x1.2),false) else if decide (400<(↑a3.size:Int)) then sN a1 [.bool false,aI] λx0=>sh (bY [.bool,.sl] a1) λ(x1:Bool×Sl)=>AI ((x1.1,x1.2),false) else sh (kF a3 0) λx0=>if decide ((↑x0.toNat:Int)=48) then if decide (1<(↑a0.size:Int)) then sN a1 [.bool false,aI] λx1=>sh (bY [.bool,.sl] a1) λ(x2:Bool×Sl)=>AI ((x2.1,x2.2),false) else kS n a1 a2 a3 else kS n a1 a2 a3
def pL (n:Nat)(a0:ζ):M ((Bool×Sl)×Bool):=nW aF [.bool false,aI] λx0=>nW aF [.bool false,aI] λx1=>sN (ak x1) [.bool false,aI] λx2=>if decide (1<(↑a0.size:Int)) then sh (kF a0 0) λx3=>if decide ((↑x3.toNat:Int)=45) then sN ((ak x1).plus 0) [.bool true] λx4=>sh (iE a0 1 (↑a0.size:Int)) λx5=>jA n a0 (ak x0) (ak x1) x5 else jA n a0 (ak x0) (ak x1) a0 else jA n a0 (ak x0) (ak x1) a0
abbrev ae5 (n:Nat):dZ:=eN 68 [pX] [.agg [.bool,.sl],jF] (pL n)
abbrev ahi:=L2 (bL 703) [(2,aG),(4,aG),(5,pX),(44,aw),(45,aw)] [] [(3,jF)] ([3,6]++rG 45 27) 0 .ret kR
def Yf:=dR [(14,[0]++rG 2 9++[1,11,12])]
abbrev UK (n:Nat):List (iV (Unit⊕Bool)):=[jN (bL 117951) [.ar 1,.code (bL 15551)] [(2,aG),(4,aG),(5,pX),(6,aw),(44,aw),(45,aw)] (CV n)]
abbrev ahj (n:Nat):List (iV ((Bool×Sl)×Bool)):=[jN (bL 79) [.code (bL 111),.code [1,1,1,1,1]] [(0,pX),(2,aG),(4,aG),(5,pX)] (jA n), jN (bL 95) [.code (bL 127)] [(2,aG),(4,aG),(5,pX)] (kS n)]
def UL (n:Nat):=ahi.k TZp Tryz.f68 n (dr:=Yf) (jt:=UK) (hT:=λm _=>.m3 (K4 m) (.cc .nil))
def Gi (n:Nat):aH TZp (ae5 n):=bg Tryz.f68 (dr:=Yf) (js:=ahj n) (hT:=⟨.nil,K4 n,.nil,(.cc (UL n) .nil),(.cc (.cc .nil))⟩)
def pM (n:Nat)(a0:Bool×Sl×Int):M ζ:=nW bz [.bool a0.1,aC a0.2.1,vi a0.2.2] λx0=>lS (ak x0) 1 λx1=>if decide ((↑x1.len:Int)=0) then AI (ofBytes [48]) else sh (bY [.bool,.sl,li] (ak x0)) λ(x2:Bool×Sl×Int)=>sh (bY [.bool,.sl,li] (ak x0)) λ(x3:Bool×Sl×Int)=>sh (uw [some (ak x0)] (pK n (x2.1,x2.2.1,x2.2.2))) λx4=>sh (mY n (x3.1,x3.2.1,x3.2.2)) λx5=>sh (kK x4 x5) λx6=>AI x6
abbrev Yg (n:Nat):dZ:=eN 124 [.agg [.bool,.sl,.int .i64]] [pX] (pM n)
def acv:=dR [(3,[0,2,3001,3,4,5])]
def BV (n:Nat):aH TZp (Yg n):=bg Tryz.f124 (dr:=acv) (hT:=.m1 (K4 n))
def HX (n:Nat):M (Nat):=sh (bC n 9221120237041090561) λx0=>AI x0
abbrev ae6 (n:Nat):dZ:=eN 97 [] [.one (.f64)] (HX n)
def Og (n:Nat):aH TZp (ae6 n):=bg Tryz.f97 (hT:=.m1 (K4 n))
def uE (n:Nat)(a0:Int):M (Nat):=if decide (0<=a0) then sh (bC n 9218868437227405312) λx0=>AI x0 else sh (bC n 18442240474082181120) λx0=>AI x0
abbrev ae7 (n:Nat):dZ:=eN 98 [aw] [.one (.f64)] (uE n)
def Oh (n:Nat):aH TZp (ae7 n):=bg Tryz.f98 (hT:=.m1 (K4 n))
def oJ (n:Nat)(a0 a1:ζ):M (ζ×ζ×Bool):=sh (jG n a0 a1) λx0=>if decide (0<=x0) then sh (iE a0 0 x0) λx1=>sh (iE a0 (i64.wrap (x0+(↑a1.size:Int))) (↑a0.size:Int)) λx2=>AI (x1,x2,true) else AI (a0,(ofBytes []),false)
abbrev Yh (n:Nat):dZ:=eN 128 [pX,pX] [pX,pX,jF] (oJ n)
def acw:=dR [(3,rG 0 12)]
def AX (n:Nat):aH TZp (Yh n):=bg Tryz.f128 (dr:=acw) (hT:=.m1 (K4 n))
def oY (n:Nat)(a0 a1:Int):M Bool:=sh (gm n a0) λx0=>sh (pB (decide (2≠0))) λx1=>if decide (a0.tmod 2=1) then if decide (x0<=53) then if decide (-1074<=a1) then if decide (a1<=1023) then AI (decide (i64.wrap (a1+x0)<=1024)) else AI false else AI false else AI false else AI false
abbrev Yi (n:Nat):dZ:=eN 101 [.one (.int .u64),aw] [jF] (oY n)
def HY (n:Nat):aH TZp (Yi n):=bg Tryz.f101 (hT:=.m1 (K4 n))
def jT (n a0 a1:Nat):M (Nat):=sh (cd n a0) λx0=>sh (cd n a1) λx1=>sh (bC n (IntKind.u64.wrap (↑(BitVec.ofInt 64 (IntKind.u64.wrap (↑(BitVec.ofInt 64 x0&&&~~~BitVec.ofInt 64 9223372036854775808).toNat:Int))|||BitVec.ofInt 64 (IntKind.u64.wrap (↑(BitVec.ofInt 64 x1&&&BitVec.ofInt 64 9223372036854775808).toNat:Int))).toNat:Int))) λx2=>AI x2
abbrev Yj (n:Nat):dZ:=eN 104 [.one (.f64),.one (.f64)] [.one (.f64)] (jT n)
def E8 (n:Nat):aH TZp (Yj n):=bg Tryz.f104 (hT:=.m1 (K4 n))
def qo (n a0:Nat):M (Nat):=sh (cd n a0) λx0=>sh (bC n (IntKind.u64.wrap (↑(BitVec.ofInt 64 x0&&&~~~BitVec.ofInt 64 9223372036854775808).toNat:Int))) λx1=>AI x1
abbrev Yk (n:Nat):dZ:=eN 160 [.one (.f64)] [.one (.f64)] (qo n)
def Oi (n:Nat):aH TZp (Yk n):=bg Tryz.f160 (hT:=.m1 (K4 n))
def lj (n a0:Nat):M Bool:=sh (cd n a0) λx0=>AI (decide (i64.wrap x0<0))
abbrev Yl (n:Nat):dZ:=eN 132 [.one (.f64)] [jF] (lj n)
def Gj (n:Nat):aH TZp (Yl n):=bg Tryz.f132 (hT:=.m1 (K4 n))
def qT (n:Nat)(a0 a1:Int):M ζ:=sh (gI n a0 a1) λx0=>AI x0
abbrev Ym (n:Nat):dZ:=eN 135 [.one (.int .u64),aw] [pX] (qT n)
def Ab (n:Nat):aH TZp (Ym n):=bg Tryz.f135 (hT:=.m1 (K4 n))
def j9 (n:Nat)(x:ο)(a0:Int):M (Int×Bool):=if rC pH x then sh (qj [aG,aG] x) λ(c:Addr×Addr)=>oV n a0 c.1 c.2 else AS
abbrev vl:=Sl->Int->Int->Addr->Addr->Addr->Int->Int->M (Unit⊕Bool)
def eo (G:vl)(n:Nat)(a0:Sl)(a1 a2:Int)(a3 a4 a5:Addr)(a6 a7 a8 a9:Int):M (Unit⊕Bool):=sh (e9 .raw a5) λ(x0:ο)=>sh (j9 n x0 a7) λx1=>if !x1.2 then AI (Sum.inr false) else iX a0 a6 1 λx2=>sN x2 [vi x1.1] λx3=>G a0 a1 a2 a3 a4 a5 a8 (i64.wrap (a9+1))
def jI:uC (vl):=λG n a0 a1 a2 a3 a4 a5 a6 a7=>if decide (a7<a6) then if decide (0<a7) then eI a3 λx0=>eT a4 λx1=>if decide ((↑(ByteArray.size x1):Int)<=x0) then AI (Sum.inr false) else eT a4 λx2=>eI a3 λx3=>sh (kF x2 x3) λx4=>if !decide ((↑x4.toNat:Int)=a2) then AI (Sum.inr false) else eI a3 λx5=>sN a3 [vi (i64.wrap (x5+1))] λx6=>if decide (a7=0) then eo G n a0 a1 a2 a3 a4 a5 a7 a1 a6 a7 else eo G n a0 a1 a2 a3 a4 a5 a7 2 a6 a7 else if decide (a7=0) then eo G n a0 a1 a2 a3 a4 a5 a7 a1 a6 a7 else eo G n a0 a1 a2 a3 a4 a5 a7 2 a6 a7 else AI (Sum.inl ())
def ij:=lp jI
def AY (n:Nat):=eo (ij n) n
def ja (n:Nat)(a0:Sl)(a1 a2:Int)(a3 a4 a5:Addr):M Bool:=sh (ij n a0 a1 a2 a3 a4 a5 (↑a0.len:Int) 0) (dX (λx0=>AI true) (λx0=>AI x0))
abbrev Yn (n:Nat):dZ:=eN 107 [cB,aw,.one (.int .u8),aG,aG,aG] [jF] (ja n)
abbrev acx:=L2 [0,1,0,1] [(0,cB),(1,aw),(2,.one (.int .u8)),(3,aG),(4,aG),(5,aG),(15,aw),(16,aw)] [] [(9,jF)] (rG 9 5++rG 16 34) 0 .ret ij
abbrev acy (n:Nat):List ru:=[dN 38 [aw] [aw,jF] (j9 n)]
abbrev Qm (n:Nat):List (iV (Unit⊕Bool)):=[jN (bL 24165) [.code (bL 32357),.ar 1,.code (bL 485)] [(0,cB),(1,aw),(2,.one (.int .u8)),(3,aG),(4,aG),(5,aG),(10,aw),(11,aw),(15,aw),(16,aw)] (AY n)]
def R5 (n:Nat):qO TZp (acy n):=.cons (dj (.cons (oQ [aG,aG] (xe n)) .nil)) .nil
def Qn (n:Nat):=acx.k TZp Tryz.f107 n (jt:=Qm) (hT:=λm _=>⟨.nil,K4 m,(R5 m),.nil,(.cc .nil)⟩)
def oK (n:Nat):aH TZp (Yn n):=bg Tryz.f107 (hT:=⟨.nil,K4 n,(R5 n),(.cc (Qn n) .nil),.nil⟩)
def nh (n:Nat)(a0 a1:Int):M Int:=nW HU [vi 0,vi 0,vi 0,vi 0,vi 0,vi 0,vi 0,vi 0,vi 0,vi 0,vi 0,vi 0,vi 0] λx0=>sN (ak x0) [vi 0,vi 31,vi 28,vi 31,vi 30,vi 31,vi 30,vi 31,vi 31,vi 30,vi 31,vi 30,vi 31] λx1=>if decide (a1=2) then sh (yW n a0) λx2=>if x2 then AI 29 else sh (pB (decide (0<=a1/\a1<(↑13:Int)))) λx3=>sh (e9 li ((ak x0).plus (a1.toNat*1))) λ(x4:Int)=>AI x4 else sh (pB (decide (0<=a1/\a1<(↑13:Int)))) λx2=>sh (e9 li ((ak x0).plus (a1.toNat*1))) λ(x3:Int)=>AI x3
abbrev Yo (n:Nat):dZ:=eN 137 [aw,aw] [aw] (nh n)
def Gk (n:Nat):aH TZp (Yo n):=bg Tryz.f137 (hT:=.m1 (K4 n))
def jU (n:Nat)(a0 a1:Int):M ζ:=sh (strconv_Itoa n a0) λx0=>sh (strings_Repeat n (ofBytes [48]) (if 0<i64.wrap (a1-(↑(ByteArray.size x0):Int)) then i64.wrap (a1-(↑(ByteArray.size x0):Int)) else 0)) λx1=>sh (kK x1 x0) λx2=>AI x2
abbrev Yp (n:Nat):dZ:=eN 139 [aw,aw] [pX] (jU n)
def HZ (n:Nat):aH TZp (Yp n):=bg Tryz.f139 (hT:=.m1 (K4 n))
def tI:uC (Addr->ν->Int->Addr->Sl->Int->Int->Sl->Int->Int->Sl->Int->Int->M (Unit⊕Bool)):=λG n a0 a1 a2 a3 a4 a5 a6 a7 a8 a9 a10 a11 a12=>if decide (a12<a11) then iX a10 a12 1 λx0=>eI x0 λx1=>gL a0 λx2=>sh (jz n (x2.1,x2.2) a2 x1) λx3=>if x3 then AI (Sum.inr true) else G a0 a1 a2 a3 a4 a5 a6 a7 a8 a9 a10 a11 (i64.wrap (a12+1)) else AI (Sum.inl ())
def oZ:=lp tI
theorem BW (n:Nat):oZ (n+1)=tI (oZ n) n:=rfl
def tJ:uC (Addr->ν->Sl->Int->Int->Sl->Int->Int->M (Unit⊕Bool)):=λG n a0 a1 a2 a3 a4 a5 a6 a7=>if decide (a7<a6) then iX a5 a7 1 λx0=>eI x0 λx1=>sh (eE 15) λx2=>lS a0 0 λx3=>iX x3 x1 5 λx4=>lI x4 0 λx5=>lS a0 0 λx6=>iX x6 x1 5 λx7=>lT x7 1 λx8=>sh (iR (some (x2+13)) aE [vi 0,.string (ofBytes [])]) λx9=>sN (ak x9) [vi x5,.string x8] λx10=>sh (bY [li,.str] (ak x9)) λ(x11:Int×ζ)=>sh (zF aE (Ty.one .sl) pY a1 (Value.agg #[vi x11.1,.string x11.2])) λ(x12:Bool×Sl)=>sh (oZ n a0 a1 x1 (ak x9) a2 a3 a4 a5 a6 a7 x12.2 (↑x12.2.len:Int) 0) (dX (λx13=>sh (bY [li,.str] (ak x9)) λ(j5:Int×ζ)=>sh (yE aE (Ty.one .sl) pY a1 (Value.agg #[vi j5.1,.string j5.2])) λx15=>sh (app false x15.1 1 au 1 [vi x1]) λrA=>sh (yF a1 (↑x15.2:Int) (aC rA)) λx17=>G a0 a1 a2 a3 a4 a5 a6 (i64.wrap (a7+1))) (λx13=>AI (Sum.inr x13))) else AI (Sum.inl ())
def mu:=lp tJ
theorem BX (n:Nat):mu (n+1)=tJ (mu n) n:=rfl
def tK:uC (Addr->Sl->Int->Int->M (Unit⊕Bool)):=λG n a0 a1 a2 a3=>if decide (a3<a2) then iX a1 a3 5 λx0=>nL x0 λx1=>nW az [vi 0,.string (ofBytes []),.bool false,aI,aI] λx2=>sN (ak x2) [vi x1.1,.string x1.2.1,.bool x1.2.2.1,aC x1.2.2.2.1,aC x1.2.2.2.2] λx3=>sh (DE aE) λx4=>lS (ak x2) 3 λx5=>sh (mu n a0 (some x4) a1 a2 a3 x5 (↑x5.len:Int) 0) (dX (λx6=>G a0 a1 a2 (i64.wrap (a3+1))) (λx6=>AI (Sum.inr x6))) else AI (Sum.inl ())
def mw:=lp tK
theorem BZ (n:Nat):mw (n+1)=tK (mw n) n:=rfl
def xg (n:Nat)(a0:Sl×Int):M Bool:=nW ah [aC a0.1,vi a0.2] λx0=>lS (ak x0) 0 λx1=>sh (mw n (ak x0) x1 (↑x1.len:Int) 0) (dX (λx2=>AI false) (λx2=>AI x2))
abbrev ae8 (n:Nat):dZ:=eN 33 [.agg [.sl,.int .i64]] [jF] (xg n)
abbrev ahk:=L2 [0,1,0,1] [(1,aG),(12,cB),(13,aw),(14,aw)] [] [(2,jF)] ([2,4,5,7,8,10]++rG 14 48) 0 .ret mw
abbrev ahl:=L2 (bL 11877) [(1,aG),(5,tyM),(12,cB),(13,aw),(14,aw),(20,cB),(21,aw),(22,aw)] [] [(2,jF)] ([2,7,8,10]++rG 22 39) 2 .ret mu
abbrev ahm:=L2 (bL 11325029) [(1,aG),(5,tyM),(7,aw),(8,aG),(12,cB),(13,aw),(14,aw),(20,cB),(21,aw),(22,aw),(41,cB),(42,aw),(43,aw)] [] [(2,jF)] ([2,10]++rG 43 9) 4 .ret oZ
def LD:=dR [(8,[0,2,6,8,1,3,4,5,7]++rG 9 6)]
def UM (n:Nat):=ahm.k TZp Tryz.f33 n (dr:=LD) (hT:=λm _=>.m1 (K4 m))
def UN (n:Nat):=ahl.k TZp Tryz.f33 n (dr:=LD) (hT:=λm _=>.m2 (K4 m) (.cc (UM m) .nil))
def UO (n:Nat):=ahk.k TZp Tryz.f33 n (dr:=LD) (hT:=λm _=>.m2 (K4 m) (.cc (UN m) .nil))
def H0 (n:Nat):aH TZp (ae8 n):=bg Tryz.f33 (dr:=LD) (hT:=.m2 (K4 n) (.cc (UO n) .nil))
def o0 (n:Nat)(x:ο)(a0:Int):M Unit:=if rC kZ x then sh (qj [aG,aG,aG,aG,aG,aG,aG,aG,aG] x) λ(c:Addr×Addr×Addr×Addr×Addr×Addr×Addr×Addr×Addr)=>gE n a0 c.1 c.2.1 c.2.2.1 c.2.2.2.1 c.2.2.2.2.1 c.2.2.2.2.2.1 c.2.2.2.2.2.2.1 c.2.2.2.2.2.2.2.1 c.2.2.2.2.2.2.2.2 else AS
def oz:uC (Addr->Int->Addr->Addr->Addr->Int->Int->M Unit):=λG n a0 a1 a2 a3 a4 a5 a6=>if decide (a6<a5) then eS a4 λx0=>iX x0 a6 1 λx1=>sN x1 [vi (-1)] λx2=>G a0 a1 a2 a3 a4 a5 (i64.wrap (a6+1)) else AI ()
def jJ:=lp oz
theorem xG (n:Nat):jJ (n+1)=oz (jJ n) n:=rfl
def pN (n:Nat)(a0:Sl×Int):M (Sl×Sl):=nW ah [aC a0.1,vi a0.2] λx0=>lS (ak x0) 0 λx1=>sh (eE 12) λx2=>sh (An (some (x2+1)) au [vi 0] (↑x1.len:Int) (↑x1.len:Int)) λx3=>sh (An (some (x2+3)) au [vi 0] (↑x1.len:Int) (↑x1.len:Int)) λx4=>sh (An (some (x2+5)) au [vi 0] (↑x1.len:Int) (↑x1.len:Int)) λx5=>sh (iR (some (x2+6)) aJ [aI]) λx6=>sh (iR (some (x2+7)) aJ [aI]) λx7=>sh (iR (some (x2+8)) aJ [aI]) λx8=>sh (Hb [x2+3,x2+5] (ak x6) (uw [none,none] (sU (ak x6) [aC x3]))) λx9=>sh (Hb [x2+5] (ak x7) (uw [none] (sU (ak x7) [aC x4]))) λx10=>sN (ak x8) [aC x5] λx11=>sh (e9 .sl (ak x8)) λ(x12:Sl)=>sh (jJ n (ak x0) (↑x1.len:Int) (ak x6) (ak x7) (ak x8) (↑x12.len:Int) 0) λx13=>nW aJ [aI] λj5=>nW aJ [aI] λx15=>sh (An none xC [.bool false] (↑x1.len:Int) (↑x1.len:Int)) λrA=>nW Bz [aI] λx17=>sN (ak x17) [aC rA] λw4=>nW au [vi 0] λx19=>sN (ak x19) [vi 0] λx20=>nW yS [Value.nilFunc] λx21=>sN (ak x21) [.func (Fn.func kZ) #[] #[.pointer (some (ak x19)),.pointer (some (ak x6)),.pointer (some (ak x7)),.pointer (some (ak x15)),.pointer (some (ak x17)),.pointer (some (ak x21)),.pointer (some (ak x0)),.pointer (some (ak j5)),.pointer (some (ak x8))]] λx22=>sh (e9 .raw (ak x21)) λ(x23:ο)=>lI (ak x0) 1 λx24=>sh (o0 n x23 x24) λx25=>sh (e9 .sl (ak x8)) λ(x26:Sl)=>sh (e9 .sl (ak j5)) λ(x27:Sl)=>AI (x26,x27)
abbrev ae9 (n:Nat):dZ:=eN 49 [.agg [.sl,.int .i64]] [cB,cB] (pN n)
abbrev ahn:=L1 (bL 87) [(1,aG),(4,aw),(5,aG),(6,aG),(7,aG),(24,aw),(25,aw)] [] ([8]++rG 25 7) 0 jJ
abbrev aho (n:Nat):List ru:=[dN 35 [aw] [] (o0 n)]
def Yq:=dR [(2,[0,2,4,1,3,5,6,7,8,6004009,6010,11]),(14,[0,2,1,3])]
def Yr (n:Nat):qO TZp (aho n):=.cons (dj (.cons (oQ [aG,aG,aG,aG,aG,aG,aG,aG,aG] (Aa n)) .nil)) .nil
def UP (n:Nat):=ahn.k TZp Tryz.f49 n (dr:=Yq) (hT:=λm _=>⟨.nil,K4 m,(Yr m),.nil,.nil⟩)
def B0 (n:Nat):aH TZp (ae9 n):=bg Tryz.f49 (dr:=Yq) (hT:=⟨.nil,K4 n,(Yr n),(.cc (UP n) .nil),.nil⟩)
def ni (n:Nat)(x:ο)(a0:Bool×Sl×Int)(a1:Int):M Int:=if rC jO x then sh (qj [] x) λ(_:Unit)=>iY n a0 a1 else AS
def nj (n:Nat)(x:ο)(a0:Bool×Sl×Int)(a1:Int):M Int:=if rC jO x then sh (qj [] x) λ(_:Unit)=>iY n a0 a1 else AS
def mz:uC (Addr->Addr->ο->Int->Int->M (Unit⊕Int)):=λG n a0 a1 a2 a3 a4=>if decide (a4<a3) then sh (bY [.bool,.sl,li] a0) λ(x0:Bool×Sl×Int)=>sh (bY [.bool,.sl,li] a1) λ(x1:Bool×Sl×Int)=>sh (uw [some a1] (ni n a2 (x0.1,x0.2.1,x0.2.2) a4)) λx2=>sh (nj n a2 (x1.1,x1.2.1,x1.2.2) a4) λx3=>if !decide (i64.wrap (i64.wrap x2-i64.wrap x3)=0) then AI (Sum.inr (i64.wrap (i64.wrap x2-i64.wrap x3))) else G a0 a1 a2 a3 (i64.wrap (a4+1)) else AI (Sum.inl ())
def iO:=lp mz
theorem wx (n:Nat):iO (n+1)=mz (iO n) n:=rfl
def oA (n:Nat)(a0 a1:Addr):M Int:=lS a0 1 λx0=>lI a0 2 λx1=>lS a1 1 λx2=>lI a1 2 λx3=>if !decide (i64.wrap (i64.wrap (i64.wrap ((↑x0.len:Int)+x1)-(↑x2.len:Int))-x3)=0) then AI (i64.wrap (i64.wrap (i64.wrap ((↑x0.len:Int)+x1)-(↑x2.len:Int))-x3)) else lS a0 1 λx4=>lS a1 1 λx5=>sh (iO n a0 a1 (Value.func (Fn.func jO) #[] #[]) (if (↑x4.len:Int)<(↑x5.len:Int) then (↑x5.len:Int) else (↑x4.len:Int)) 0) (dX (λx6=>AI 0) (λx6=>AI x6))
def np (n:Nat)(a0 a1:Bool×Sl×Int):M Int:=nW bz [.bool a0.1,aC a0.2.1,vi a0.2.2] λx0=>nW bz [.bool a1.1,aC a1.2.1,vi a1.2.2] λx1=>lS (ak x0) 1 λx2=>if decide ((↑x2.len:Int)=0) then lS (ak x0) 1 λx3=>lS (ak x1) 1 λx4=>AI (i64.wrap ((↑x3.len:Int)-(↑x4.len:Int))) else lS (ak x1) 1 λx3=>if decide ((↑x3.len:Int)=0) then lS (ak x0) 1 λx4=>lS (ak x1) 1 λx5=>AI (i64.wrap ((↑x4.len:Int)-(↑x5.len:Int))) else oA n (ak x0) (ak x1)
abbrev Ys (n:Nat):dZ:=eN 170 [.agg [.bool,.sl,.int .i64],.agg [.bool,.sl,.int .i64]] [aw] (np n)
abbrev acz:=L2 (bL 175) [(2,aG),(3,aG),(6,tG),(48,aw),(49,aw)] [] [(4,aw)] ([4,7,8]++rG 49 18) 0 .ret iO
abbrev acA (n:Nat):List ru:=[dN 52 [.agg [.bool,.sl,.int .i64],aw] [.one (.int .u8)] (ni n), dN 57 [.agg [.bool,.sl,.int .i64],aw] [.one (.int .u8)] (nj n)]
def R6:=dR [(10,[0,2,5,7,1,6,7003,4,8,9,10,11])]
abbrev acB (n:Nat):List (iV Int):=[jN [0,0,1,1] [.code [1,0,1,1],.code [1,1,1]] [(2,aG),(3,aG)] (oA n)]
def R7 (n:Nat):qO TZp (acA n):=.cons (dj (.cons (oQ [] (mr n)) .nil)) (.cons (dj (.cons (oQ [] (mr n)) .nil)) .nil)
def Qo (n:Nat):=acz.k TZp Tryz.f170 n (dr:=R6) (hT:=λm _=>⟨.nil,K4 m,(R7 m),.nil,.nil⟩)
def Ac (n:Nat):aH TZp (Ys n):=bg Tryz.f170 (dr:=R6) (js:=acB n) (hT:=⟨.nil,K4 n,(R7 n),(.cc (Qo n) .nil),(.cc .nil)⟩)
def mA (n:Nat)(a0 a1:ζ):M Int:=sh (eh n a0 a1) λx0=>AI x0
abbrev Yt (n:Nat):dZ:=eN 144 [pX,pX] [aw] (mA n)
def wy (n:Nat):aH TZp (Yt n):=bg Tryz.f144 (hT:=.m1 (K4 n))
def qp (n:Nat)(a0:Int):M Int:=sh (gm n a0) λx0=>AI x0
abbrev afa (n:Nat):dZ:=eN 65 [.one (.int .u64)] [aw] (qp n)
def E9 (n:Nat):aH TZp (afa n):=bg Tryz.f65 (hT:=.m1 (K4 n))
def fJ (n:Nat)(a0:θ):M Unit:=sh (nn a0) λx0=>sh (e9 .ptr (x0.plus 0)) λ(x1:θ)=>if Option.isNone x1 then sh (nn a0) λx2=>sh (inB x2) λx3=>sh (rR n (some x3)) λx4=>sh (nn x4) λx5=>sh (atB fR 2 x5) λx6=>sh (nn a0) λx7=>sN (x7.plus 0) [.pointer (some x6)] λx8=>AI () else sh (nn a0) λx2=>sh (e9 .ptr (x2.plus 0)) λ(x3:θ)=>sh (eqP x3 a0) λx4=>if !x4 then AS else AI ()
abbrev afb (n:Nat):dZ:=eN 55 [vS] [] (fJ n)
def u0 (n:Nat):aH TZp (afb n):=bg Tryz.f55 (hT:=.m1 (K4 n))
def vC (n:Nat)(a0 a1:Int×ζ×Bool×Sl×Sl):M Bool:=nW az [vi a0.1,.string a0.2.1,.bool a0.2.2.1,aC a0.2.2.2.1,aC a0.2.2.2.2] λx0=>nW az [vi a1.1,.string a1.2.1,.bool a1.2.2.1,aC a1.2.2.2.1,aC a1.2.2.2.2] λx1=>lI (ak x0) 0 λx2=>lI (ak x1) 0 λx3=>if decide (x2=x3) then lT (ak x0) 1 λx4=>lT (ak x1) 1 λx5=>if mM x4 x5 then lB (ak x0) 2 λx6=>lB (ak x1) 2 λx7=>if x6==x7 then lS (ak x0) 3 λx8=>lS (ak x1) 3 λx9=>sh (iZ n x8 x9) λx10=>if x10 then lS (ak x0) 4 λx11=>lS (ak x1) 4 λx12=>sh (iZ n x11 x12) λx13=>AI x13 else AI false else AI false else AI false else AI false
abbrev afc (n:Nat):dZ:=eN 19 [.agg [.int .i64,.str,.bool,.sl,.sl],.agg [.int .i64,.str,.bool,.sl,.sl]] [jF] (vC n)
def zL (n:Nat):aH TZp (afc n):=bg Tryz.f19 (hT:=.m1 (K4 n))
abbrev C5 (n:Nat):List dZ:=ae5 n::Yg n::ae6 n::ae7 n::Yh n::Yi n::Yj n::Yk n::Yl n::Ym n::Yn n::Yo n::Yp n::ae8 n::ae9 n::Ys n::Yt n::afa n::afb n::afc n::C4 n
def K5 (n:Nat):eY TZp (C5 n):=.cons (Gi n) (.cons (BV n) (.cons (Og n) (.cons (Oh n) (.cons (AX n) (.cons (HY n) (.cons (E8 n) (.cons (Oi n) (.cons (Gj n) (.cons (Ab n) (.cons (oK n) (.cons (Gk n) (.cons (HZ n) (.cons (H0 n) (.cons (B0 n) (.cons (Ac n) (.cons (wy n) (.cons (E9 n) (.cons (u0 n) (.cons (zL n) (K4 n))))))))))))))))))))
def qq (n:Nat)(a0:ζ):M Bool:=sh (pL n a0) λx0=>nW aF [.bool false,aI] λx1=>sN (ak x1) [.bool x0.1.1,aC x0.1.2] λx2=>AI x0.2
abbrev afd (n:Nat):dZ:=eN 56 [pX] [jF] (qq n)
def Fa (n:Nat):aH TZp (afd n):=bg Tryz.f56 (hT:=.m1 (K5 n))
def pO (n:Nat)(a0:Bool×Sl×Int):M ζ:=nW bz [.bool a0.1,aC a0.2.1,vi a0.2.2] λx0=>sh (bY [.bool,.sl,li] (ak x0)) λ(x1:Bool×Sl×Int)=>lI (ak x0) 2 λx2=>sh (uw [some ((ak x0).plus 2)] (pM n (x1.1,x1.2.1,x1.2.2))) λx3=>sh (kK x3 (ofBytes [101])) λx4=>sh (strconv_Itoa n x2) λx5=>sh (kK x4 x5) λx6=>AI x6
abbrev afe (n:Nat):dZ:=eN 95 [.agg [.bool,.sl,.int .i64]] [pX] (pO n)
def ahp:=dR [(1,[3,0,4,5001,2,5,6,7])]
def B3 (n:Nat):aH TZp (afe n):=bg Tryz.f95 (dr:=ahp) (hT:=.m1 (K5 n))
def strings_Cut (n:Nat)(a0 a1:ζ):M (ζ×ζ×Bool):=sh (oJ n a0 a1) λx0=>AI (x0.1,x0.2.1,x0.2.2)
abbrev aff (n:Nat):dZ:=eN 99 [pX,pX] [pX,pX,jF] (strings_Cut n)
def H3 (n:Nat):aH TZp (aff n):=bg Tryz.f99 (hT:=.m1 (K5 n))
def nu (n a0:Nat)(a1:Int):M Bool:=if decide (a1=0) then sh (qo n a0) λx0=>AI (PB x0 9218868437227405311) else if decide (a1<0) then AI (PB (agf a0) 9218868437227405311) else AI (PB a0 9218868437227405311)
abbrev Yu (n:Nat):dZ:=eN 133 [.one (.f64),aw] [jF] (nu n)
def Jo (n:Nat):aH TZp (Yu n):=bg Tryz.f133 (hT:=.m1 (K5 n))
def wz (n a0:Nat):M (Nat×Int):=sh (qo n a0) λx0=>if WN x0 4503599627370496 then sh (MS a0 4841369599423283200) λx1=>AI (x1,-52) else AI (a0,0)
abbrev Yv (n:Nat):dZ:=eN 159 [.one (.f64)] [.one (.f64),aw] (wz n)
def D7 (n:Nat):aH TZp (Yv n):=bg Tryz.f159 (hT:=.m1 (K5 n))
def qE (n:Nat)(a0 a1:Int):M (Int×Int):=sh (de n a0) λx0=>sh (pB (decide (0<=x0))) λx1=>AI (a0.fdiv (2^min (Int.toNat x0) 64),i64.wrap (i64.wrap (a1-1075)+x0))
def nA (n a0:Nat):M (Int×Int):=sh (qo n a0) λx0=>sh (cd n x0) λx1=>sh (pB (decide (0<=52))) λx2=>if decide (i64.wrap (Int.fdiv x1 (2^52))=0) then qE n (IntKind.u64.wrap (↑(BitVec.ofInt 64 x1&&&BitVec.ofInt 64 4503599627370495).toNat:Int)) 1 else qE n (IntKind.u64.wrap (↑(BitVec.ofInt 64 (IntKind.u64.wrap (↑(BitVec.ofInt 64 x1&&&BitVec.ofInt 64 4503599627370495).toNat:Int))|||BitVec.ofInt 64 4503599627370496).toNat:Int)) (i64.wrap (Int.fdiv x1 (2^52)))
abbrev Yw (n:Nat):dZ:=eN 134 [.one (.f64)] [.one (.int .u64),aw] (nA n)
abbrev acC (n:Nat):List (iV (Int×Int)):=[jN [0,1,1,1,1] [.code [1,1,1,1,1]] [(5,.one (.int .u64)),(6,aw)] (qE n)]
def Gl (n:Nat):aH TZp (Yw n):=bg Tryz.f134 (js:=acC n) (hT:=.m3 (K5 n) (.cc .nil))
def tL (n:Nat)(x:ο)(a0:Sl)(a1 a2:Int):M Bool:=if rC dS x then sh (qj [aG,aG,aG] x) λ(c:Addr×Addr×Addr)=>ja n a0 a1 a2 c.1 c.2.1 c.2.2 else AS
def tM (n:Nat)(x:ο)(a0:Sl)(a1 a2:Int):M Bool:=if rC dS x then sh (qj [aG,aG,aG] x) λ(c:Addr×Addr×Addr)=>ja n a0 a1 a2 c.1 c.2.1 c.2.2 else AS
def sq (n:Nat)(x:ο)(a0:Sl)(a1 a2:Int):M Bool:=if rC dS x then sh (qj [aG,aG,aG] x) λ(c:Addr×Addr×Addr)=>ja n a0 a1 a2 c.1 c.2.1 c.2.2 else AS
def lr:uC (Addr->Addr->Addr->Addr->ο->Int->M Unit):=λG n a0 a1 a2 a3 a4 a5=>if decide (a5<9) then lI a2 9 λx0=>sN (a2.plus 9) [vi (i64.wrap (x0*10))] λx1=>G a0 a1 a2 a3 a4 (i64.wrap (a5+1)) else AI ()
def nU:=lp lr
abbrev xh:=Addr->Addr->Addr->Addr->ο->Int->M Int
def o5 (G:xh)(n:Nat)(a0 a1 a2 a3:Addr)(a4:ο)(a5:Int):M Int:=lI a2 9 λx0=>eT a0 λx1=>eI a3 λx2=>sh (kF x1 x2) λx3=>sN (a2.plus 9) [vi (i64.wrap (i64.wrap (10*x0)+i64.wrap (IntKind.u8.wrap ((↑x3.toNat:Int)-48))))] λx4=>eI a3 λx5=>sN a3 [vi (i64.wrap (x5+1))] λx6=>G a0 a1 a2 a3 a4 (i64.wrap (a5+1))
def lu:uC (xh):=λG n a0 a1 a2 a3 a4 a5=>if decide (a5<9) then eI a3 λx0=>eT a0 λx1=>if decide (x0<(↑(ByteArray.size x1):Int)) then eT a0 λx2=>eI a3 λx3=>sh (kF x2 x3) λx4=>if decide (48<=(↑x4.toNat:Int)) then eT a0 λx5=>eI a3 λx6=>sh (kF x5 x6) λx7=>if decide ((↑x7.toNat:Int)<=57) then o5 G n a0 a1 a2 a3 a4 a5 else AI a5 else AI a5 else AI a5 else AI a5
def kT:=lp lu
def CW (n:Nat):=o5 (kT n) n
def qF (n:Nat)(a0 a1 a2 a3:Addr)(a4:ο):M ((J11)×Bool):=eT a0 λx0=>eI a3 λx1=>sh (kF x0 x1) λx2=>sN (a2.plus 10) [.int IntKind.u8 (↑x2.toNat:Int)] λx3=>eI a3 λx4=>sN a3 [vi (i64.wrap (x4+1))] λx5=>sh (e9 (.int IntKind.u8) (a2.plus 10)) λ(x6:Int)=>if decide (x6=90) then sh (bY [li,li,li,li,li,li,li,li,li,li,.int IntKind.u8] a2) λ(x7:J11)=>eI a3 λx8=>eT a0 λx9=>sh (uw [some a3,some a0] (sU a1 [vi x7.1,vi x7.2.1,vi x7.2.2.1,vi x7.2.2.2.1,vi x7.2.2.2.2.1,vi x7.2.2.2.2.2.1,vi x7.2.2.2.2.2.2.1,vi x7.2.2.2.2.2.2.2.1,vi x7.2.2.2.2.2.2.2.2.1,vi x7.2.2.2.2.2.2.2.2.2.1,.int IntKind.u8 x7.2.2.2.2.2.2.2.2.2.2])) λx10=>sh (bY [li,li,li,li,li,li,li,li,li,li,.int IntKind.u8] a1) λ(x11:J11)=>AI ((x11.1,x11.2.1,x11.2.2.1,x11.2.2.2.1,x11.2.2.2.2.1,x11.2.2.2.2.2.1,x11.2.2.2.2.2.2.1,x11.2.2.2.2.2.2.2.1,x11.2.2.2.2.2.2.2.2.1,x11.2.2.2.2.2.2.2.2.2.1,x11.2.2.2.2.2.2.2.2.2.2),decide (x8=(↑(ByteArray.size x9):Int))) else sh (e9 (.int IntKind.u8) (a2.plus 10)) λ(x7:Int)=>if !decide (x7=43) then sh (e9 (.int IntKind.u8) (a2.plus 10)) λ(x8:Int)=>if !decide (x8=45) then sh (bY [li,li,li,li,li,li,li,li,li,li,.int IntKind.u8] a2) λ(x9:J11)=>sN a1 [vi x9.1,vi x9.2.1,vi x9.2.2.1,vi x9.2.2.2.1,vi x9.2.2.2.2.1,vi x9.2.2.2.2.2.1,vi x9.2.2.2.2.2.2.1,vi x9.2.2.2.2.2.2.2.1,vi x9.2.2.2.2.2.2.2.2.1,vi x9.2.2.2.2.2.2.2.2.2.1,.int IntKind.u8 x9.2.2.2.2.2.2.2.2.2.2] λx10=>sh (bY [li,li,li,li,li,li,li,li,li,li,.int IntKind.u8] a1) λ(x11:J11)=>AI ((x11.1,x11.2.1,x11.2.2.1,x11.2.2.2.1,x11.2.2.2.2.1,x11.2.2.2.2.2.1,x11.2.2.2.2.2.2.1,x11.2.2.2.2.2.2.2.1,x11.2.2.2.2.2.2.2.2.1,x11.2.2.2.2.2.2.2.2.2.1,x11.2.2.2.2.2.2.2.2.2.2),false) else sh (oq (a2.plus 1) 8 6 8 1) λx9=>sh (sq n a4 x9 2 58) λx10=>if !x10 then sh (bY [li,li,li,li,li,li,li,li,li,li,.int IntKind.u8] a2) λ(x11:J11)=>sN a1 [vi x11.1,vi x11.2.1,vi x11.2.2.1,vi x11.2.2.2.1,vi x11.2.2.2.2.1,vi x11.2.2.2.2.2.1,vi x11.2.2.2.2.2.2.1,vi x11.2.2.2.2.2.2.2.1,vi x11.2.2.2.2.2.2.2.2.1,vi x11.2.2.2.2.2.2.2.2.2.1,.int IntKind.u8 x11.2.2.2.2.2.2.2.2.2.2] λx12=>sh (bY [li,li,li,li,li,li,li,li,li,li,.int IntKind.u8] a1) λ(x13:J11)=>AI ((x13.1,x13.2.1,x13.2.2.1,x13.2.2.2.1,x13.2.2.2.2.1,x13.2.2.2.2.2.1,x13.2.2.2.2.2.2.1,x13.2.2.2.2.2.2.2.1,x13.2.2.2.2.2.2.2.2.1,x13.2.2.2.2.2.2.2.2.2.1,x13.2.2.2.2.2.2.2.2.2.2),false) else sh (bY [li,li,li,li,li,li,li,li,li,li,.int IntKind.u8] a2) λ(x11:J11)=>eI a3 λx12=>eT a0 λx13=>sh (uw [some a3,some a0] (sU a1 [vi x11.1,vi x11.2.1,vi x11.2.2.1,vi x11.2.2.2.1,vi x11.2.2.2.2.1,vi x11.2.2.2.2.2.1,vi x11.2.2.2.2.2.2.1,vi x11.2.2.2.2.2.2.2.1,vi x11.2.2.2.2.2.2.2.2.1,vi x11.2.2.2.2.2.2.2.2.2.1,.int IntKind.u8 x11.2.2.2.2.2.2.2.2.2.2])) λj5=>sh (bY [li,li,li,li,li,li,li,li,li,li,.int IntKind.u8] a1) λ(x15:J11)=>AI ((x15.1,x15.2.1,x15.2.2.1,x15.2.2.2.1,x15.2.2.2.2.1,x15.2.2.2.2.2.1,x15.2.2.2.2.2.2.1,x15.2.2.2.2.2.2.2.1,x15.2.2.2.2.2.2.2.2.1,x15.2.2.2.2.2.2.2.2.2.1,x15.2.2.2.2.2.2.2.2.2.2),decide (x12=(↑(ByteArray.size x13):Int))) else sh (oq (a2.plus 1) 8 6 8 1) λx8=>sh (sq n a4 x8 2 58) λx9=>if !x9 then sh (bY [li,li,li,li,li,li,li,li,li,li,.int IntKind.u8] a2) λ(x10:J11)=>sN a1 [vi x10.1,vi x10.2.1,vi x10.2.2.1,vi x10.2.2.2.1,vi x10.2.2.2.2.1,vi x10.2.2.2.2.2.1,vi x10.2.2.2.2.2.2.1,vi x10.2.2.2.2.2.2.2.1,vi x10.2.2.2.2.2.2.2.2.1,vi x10.2.2.2.2.2.2.2.2.2.1,.int IntKind.u8 x10.2.2.2.2.2.2.2.2.2.2] λx11=>sh (bY [li,li,li,li,li,li,li,li,li,li,.int IntKind.u8] a1) λ(x12:J11)=>AI ((x12.1,x12.2.1,x12.2.2.1,x12.2.2.2.1,x12.2.2.2.2.1,x12.2.2.2.2.2.1,x12.2.2.2.2.2.2.1,x12.2.2.2.2.2.2.2.1,x12.2.2.2.2.2.2.2.2.1,x12.2.2.2.2.2.2.2.2.2.1,x12.2.2.2.2.2.2.2.2.2.2),false) else sh (bY [li,li,li,li,li,li,li,li,li,li,.int IntKind.u8] a2) λ(x10:J11)=>eI a3 λx11=>eT a0 λx12=>sh (uw [some a3,some a0] (sU a1 [vi x10.1,vi x10.2.1,vi x10.2.2.1,vi x10.2.2.2.1,vi x10.2.2.2.2.1,vi x10.2.2.2.2.2.1,vi x10.2.2.2.2.2.2.1,vi x10.2.2.2.2.2.2.2.1,vi x10.2.2.2.2.2.2.2.2.1,vi x10.2.2.2.2.2.2.2.2.2.1,.int IntKind.u8 x10.2.2.2.2.2.2.2.2.2.2])) λx13=>sh (bY [li,li,li,li,li,li,li,li,li,li,.int IntKind.u8] a1) λ(j5:J11)=>AI ((j5.1,j5.2.1,j5.2.2.1,j5.2.2.2.1,j5.2.2.2.2.1,j5.2.2.2.2.2.1,j5.2.2.2.2.2.2.1,j5.2.2.2.2.2.2.2.1,j5.2.2.2.2.2.2.2.2.1,j5.2.2.2.2.2.2.2.2.2.1,j5.2.2.2.2.2.2.2.2.2.2),decide (x11=(↑(ByteArray.size x12):Int)))
def kU (n:Nat)(a0 a1 a2 a3:Addr)(a4:ο):M ((J11)×Bool):=eI a3 λx0=>eT a0 λx1=>if decide (x0<(↑(ByteArray.size x1):Int)) then lI a2 0 λx2=>if decide (x2=3) then qF n a0 a1 a2 a3 a4 else sh (bY [li,li,li,li,li,li,li,li,li,li,.int IntKind.u8] a2) λ(x3:J11)=>eI a3 λx4=>eT a0 λx5=>sh (uw [some a3,some a0] (sU a1 [vi x3.1,vi x3.2.1,vi x3.2.2.1,vi x3.2.2.2.1,vi x3.2.2.2.2.1,vi x3.2.2.2.2.2.1,vi x3.2.2.2.2.2.2.1,vi x3.2.2.2.2.2.2.2.1,vi x3.2.2.2.2.2.2.2.2.1,vi x3.2.2.2.2.2.2.2.2.2.1,.int IntKind.u8 x3.2.2.2.2.2.2.2.2.2.2])) λx6=>sh (bY [li,li,li,li,li,li,li,li,li,li,.int IntKind.u8] a1) λ(x7:J11)=>AI ((x7.1,x7.2.1,x7.2.2.1,x7.2.2.2.1,x7.2.2.2.2.1,x7.2.2.2.2.2.1,x7.2.2.2.2.2.2.1,x7.2.2.2.2.2.2.2.1,x7.2.2.2.2.2.2.2.2.1,x7.2.2.2.2.2.2.2.2.2.1,x7.2.2.2.2.2.2.2.2.2.2),decide (x4=(↑(ByteArray.size x5):Int))) else sh (bY [li,li,li,li,li,li,li,li,li,li,.int IntKind.u8] a2) λ(x2:J11)=>eI a3 λx3=>eT a0 λx4=>sh (uw [some a3,some a0] (sU a1 [vi x2.1,vi x2.2.1,vi x2.2.2.1,vi x2.2.2.2.1,vi x2.2.2.2.2.1,vi x2.2.2.2.2.2.1,vi x2.2.2.2.2.2.2.1,vi x2.2.2.2.2.2.2.2.1,vi x2.2.2.2.2.2.2.2.2.1,vi x2.2.2.2.2.2.2.2.2.2.1,.int IntKind.u8 x2.2.2.2.2.2.2.2.2.2.2])) λx5=>sh (bY [li,li,li,li,li,li,li,li,li,li,.int IntKind.u8] a1) λ(x6:J11)=>AI ((x6.1,x6.2.1,x6.2.2.1,x6.2.2.2.1,x6.2.2.2.2.1,x6.2.2.2.2.2.1,x6.2.2.2.2.2.2.1,x6.2.2.2.2.2.2.2.1,x6.2.2.2.2.2.2.2.2.1,x6.2.2.2.2.2.2.2.2.2.1,x6.2.2.2.2.2.2.2.2.2.2),decide (x3=(↑(ByteArray.size x4):Int)))
def qG (n:Nat)(a0 a1 a2 a3:Addr)(a4:ο):M ((J11)×Bool):=eI a3 λx0=>sN a3 [vi (i64.wrap (x0+1))] λx1=>sh (kT n a0 a1 a2 a3 a4 0) λx2=>if decide (x2=0) then sh (bY [li,li,li,li,li,li,li,li,li,li,.int IntKind.u8] a2) λ(x3:J11)=>sN a1 [vi x3.1,vi x3.2.1,vi x3.2.2.1,vi x3.2.2.2.1,vi x3.2.2.2.2.1,vi x3.2.2.2.2.2.1,vi x3.2.2.2.2.2.2.1,vi x3.2.2.2.2.2.2.2.1,vi x3.2.2.2.2.2.2.2.2.1,vi x3.2.2.2.2.2.2.2.2.2.1,.int IntKind.u8 x3.2.2.2.2.2.2.2.2.2.2] λx4=>sh (bY [li,li,li,li,li,li,li,li,li,li,.int IntKind.u8] a1) λ(x5:J11)=>AI ((x5.1,x5.2.1,x5.2.2.1,x5.2.2.2.1,x5.2.2.2.2.1,x5.2.2.2.2.2.1,x5.2.2.2.2.2.2.1,x5.2.2.2.2.2.2.2.1,x5.2.2.2.2.2.2.2.2.1,x5.2.2.2.2.2.2.2.2.2.1,x5.2.2.2.2.2.2.2.2.2.2),false) else sh (nU n a0 a1 a2 a3 a4 x2) λx3=>kU n a0 a1 a2 a3 a4
def gp (n:Nat)(a0 a1 a2 a3:Addr)(a4:ο):M ((J11)×Bool):=sh (oq (a2.plus 1) 8 3 6 1) λx0=>sh (tM n a4 x0 2 58) λx1=>if !x1 then sh (bY [li,li,li,li,li,li,li,li,li,li,.int IntKind.u8] a2) λ(x2:J11)=>sN a1 [vi x2.1,vi x2.2.1,vi x2.2.2.1,vi x2.2.2.2.1,vi x2.2.2.2.2.1,vi x2.2.2.2.2.2.1,vi x2.2.2.2.2.2.2.1,vi x2.2.2.2.2.2.2.2.1,vi x2.2.2.2.2.2.2.2.2.1,vi x2.2.2.2.2.2.2.2.2.2.1,.int IntKind.u8 x2.2.2.2.2.2.2.2.2.2.2] λx3=>sh (bY [li,li,li,li,li,li,li,li,li,li,.int IntKind.u8] a1) λ(x4:J11)=>AI ((x4.1,x4.2.1,x4.2.2.1,x4.2.2.2.1,x4.2.2.2.2.1,x4.2.2.2.2.2.1,x4.2.2.2.2.2.2.1,x4.2.2.2.2.2.2.2.1,x4.2.2.2.2.2.2.2.2.1,x4.2.2.2.2.2.2.2.2.2.1,x4.2.2.2.2.2.2.2.2.2.2),false) else lI a2 0 λx2=>sN (a2.plus 0) [vi (i64.wrap (x2+2))] λx3=>eI a3 λx4=>eT a0 λx5=>if decide (x4<(↑(ByteArray.size x5):Int)) then eT a0 λx6=>eI a3 λx7=>sh (kF x6 x7) λx8=>if decide ((↑x8.toNat:Int)=46) then qG n a0 a1 a2 a3 a4 else kU n a0 a1 a2 a3 a4 else kU n a0 a1 a2 a3 a4
def nV (n:Nat)(a0 a1 a2 a3:Addr)(a4:ο):M ((J11)×Bool):=sh (oq (a2.plus 1) 8 0 3 1) λx0=>sh (tL n a4 x0 4 45) λx1=>if !x1 then sh (bY [li,li,li,li,li,li,li,li,li,li,.int IntKind.u8] a2) λ(x2:J11)=>sN a1 [vi x2.1,vi x2.2.1,vi x2.2.2.1,vi x2.2.2.2.1,vi x2.2.2.2.2.1,vi x2.2.2.2.2.2.1,vi x2.2.2.2.2.2.2.1,vi x2.2.2.2.2.2.2.2.1,vi x2.2.2.2.2.2.2.2.2.1,vi x2.2.2.2.2.2.2.2.2.2.1,.int IntKind.u8 x2.2.2.2.2.2.2.2.2.2.2] λx3=>sh (bY [li,li,li,li,li,li,li,li,li,li,.int IntKind.u8] a1) λ(x4:J11)=>AI ((x4.1,x4.2.1,x4.2.2.1,x4.2.2.2.1,x4.2.2.2.2.1,x4.2.2.2.2.2.1,x4.2.2.2.2.2.2.1,x4.2.2.2.2.2.2.2.1,x4.2.2.2.2.2.2.2.2.1,x4.2.2.2.2.2.2.2.2.2.1,x4.2.2.2.2.2.2.2.2.2.2),false) else sN (a2.plus 0) [vi 1] λx2=>eI a3 λx3=>eT a0 λx4=>if decide (x3=(↑(ByteArray.size x4):Int)) then sh (bY [li,li,li,li,li,li,li,li,li,li,.int IntKind.u8] a2) λ(x5:J11)=>sN a1 [vi x5.1,vi x5.2.1,vi x5.2.2.1,vi x5.2.2.2.1,vi x5.2.2.2.2.1,vi x5.2.2.2.2.2.1,vi x5.2.2.2.2.2.2.1,vi x5.2.2.2.2.2.2.2.1,vi x5.2.2.2.2.2.2.2.2.1,vi x5.2.2.2.2.2.2.2.2.2.1,.int IntKind.u8 x5.2.2.2.2.2.2.2.2.2.2] λx6=>sh (bY [li,li,li,li,li,li,li,li,li,li,.int IntKind.u8] a1) λ(x7:J11)=>AI ((x7.1,x7.2.1,x7.2.2.1,x7.2.2.2.1,x7.2.2.2.2.1,x7.2.2.2.2.2.1,x7.2.2.2.2.2.2.1,x7.2.2.2.2.2.2.2.1,x7.2.2.2.2.2.2.2.2.1,x7.2.2.2.2.2.2.2.2.2.1,x7.2.2.2.2.2.2.2.2.2.2),true) else eT a0 λx5=>eI a3 λx6=>sh (kF x5 x6) λx7=>if !decide ((↑x7.toNat:Int)=84) then eT a0 λx8=>eI a3 λx9=>sh (kF x8 x9) λx10=>if !decide ((↑x10.toNat:Int)=32) then sh (bY [li,li,li,li,li,li,li,li,li,li,.int IntKind.u8] a2) λ(x11:J11)=>sN a1 [vi x11.1,vi x11.2.1,vi x11.2.2.1,vi x11.2.2.2.1,vi x11.2.2.2.2.1,vi x11.2.2.2.2.2.1,vi x11.2.2.2.2.2.2.1,vi x11.2.2.2.2.2.2.2.1,vi x11.2.2.2.2.2.2.2.2.1,vi x11.2.2.2.2.2.2.2.2.2.1,.int IntKind.u8 x11.2.2.2.2.2.2.2.2.2.2] λx12=>sh (bY [li,li,li,li,li,li,li,li,li,li,.int IntKind.u8] a1) λ(x13:J11)=>AI ((x13.1,x13.2.1,x13.2.2.1,x13.2.2.2.1,x13.2.2.2.2.1,x13.2.2.2.2.2.1,x13.2.2.2.2.2.2.1,x13.2.2.2.2.2.2.2.1,x13.2.2.2.2.2.2.2.2.1,x13.2.2.2.2.2.2.2.2.2.1,x13.2.2.2.2.2.2.2.2.2.2),false) else eI a3 λx11=>sN a3 [vi (i64.wrap (x11+1))] λx12=>gp n a0 a1 a2 a3 a4 else eI a3 λx8=>sN a3 [vi (i64.wrap (x8+1))] λx9=>gp n a0 a1 a2 a3 a4
def nB (n:Nat)(a0:ζ):M ((J11)×Bool):=nW eD [.string a0] λx0=>nW bP [vi 0,vi 0,vi 0,vi 0,vi 0,vi 0,vi 0,vi 0,vi 0,vi 0,.int IntKind.u8 0] λx1=>nW bP [vi 0,vi 0,vi 0,vi 0,vi 0,vi 0,vi 0,vi 0,vi 0,vi 0,.int IntKind.u8 0] λx2=>nW au [vi 0] λx3=>sN (ak x3) [vi 0] λx4=>nW wh [Value.nilFunc] λx5=>sN (ak x5) [.func (Fn.func pH) #[] #[.pointer (some (ak x3)),.pointer (some (ak x0))]] λx6=>sh (e9 .str (ak x0)) λ(x7:ζ)=>if decide (2<(↑(ByteArray.size x7):Int)) then sh (e9 .str (ak x0)) λ(x8:ζ)=>sh (kF x8 2) λx9=>if !decide ((↑x9.toNat:Int)=58) then nV n (ak x0) (ak x1) (ak x2) (ak x3) (Value.func (Fn.func dS) #[] #[.pointer (some (ak x3)),.pointer (some (ak x0)),.pointer (some (ak x5))]) else gp n (ak x0) (ak x1) (ak x2) (ak x3) (Value.func (Fn.func dS) #[] #[.pointer (some (ak x3)),.pointer (some (ak x0)),.pointer (some (ak x5))]) else gp n (ak x0) (ak x1) (ak x2) (ak x3) (Value.func (Fn.func dS) #[] #[.pointer (some (ak x3)),.pointer (some (ak x0)),.pointer (some (ak x5))])
abbrev afg (n:Nat):dZ:=eN 72 [pX] [.agg [.int .i64,.int .i64,.int .i64,.int .i64,.int .i64,.int .i64,.int .i64,.int .i64,.int .i64,.int .i64,.int .u8],jF] (nB n)
abbrev ahq:=L1 (bL 39679) [(1,aG),(2,aG),(4,aG),(5,aG),(7,tG),(8,aw)] [(8,aw)] ([8]++rG 66 34) 0 kT
abbrev ahr:=L1 (bL 97023) [(1,aG),(2,aG),(4,aG),(5,aG),(7,tG),(8,aw)] [] ([8]++rG 103 8) 2 nU
abbrev ahs (n:Nat):List ru:=[dN 19 [cB,aw,.one (.int .u8)] [jF] (tL n), dN 44 [cB,aw,.one (.int .u8)] [jF] (tM n), dN 143 [cB,aw,.one (.int .u8)] [jF] (sq n)]
def Qp:=dR [(21,rG 0 11),(33,rG 0 5++[3002005,6]),(36,rG 0 5++[3002005,6])]
abbrev UQ (n:Nat):List (iV Int):=[jN (bL 596735) [.code (bL 858879),.ar 1] [(1,aG),(2,aG),(4,aG),(5,aG),(7,tG),(8,aw)] (CW n)]
abbrev aht (n:Nat):List (iV ((J11)×Bool)):=[jN (bL 1119) [.code (bL 1631),.code (bL 863),.code (bL 127)] [(1,aG),(2,aG),(4,aG),(5,aG),(7,tG)] (nV n), jN (bL 319) [.code (bL 447),.code (bL 255)] [(1,aG),(2,aG),(4,aG),(5,aG),(7,tG)] (gp n), jN (bL 4863) [.code (bL 6911),.code (bL 1023)] [(1,aG),(2,aG),(4,aG),(5,aG),(7,tG)] (qG n), jN (bL 2559) [.code (bL 3583),.code (bL 2047)] [(1,aG),(2,aG),(4,aG),(5,aG),(7,tG)] (kU n), jN (bL 9727) [.code (bL 13823),.code (bL 2047)] [(1,aG),(2,aG),(4,aG),(5,aG),(7,tG)] (qF n)]
def Qq (n:Nat):qO TZp (ahs n):=.cons (dj (.cons (oQ [aG,aG,aG] (oK n)) .nil)) (.cons (dj (.cons (oQ [aG,aG,aG] (oK n)) .nil)) (.cons (dj (.cons (oQ [aG,aG,aG] (oK n)) .nil)) .nil))
def UR (n:Nat):=ahr.k TZp Tryz.f72 n (dr:=Qp) (hT:=λm _=>⟨.nil,K5 m,(Qq m),.nil,.nil⟩)
def US (n:Nat):=ahq.k TZp Tryz.f72 n (dr:=Qp) (jt:=UQ) (hT:=λm _=>⟨.nil,K5 m,(Qq m),.nil,(.cc .nil)⟩)
def Gm (n:Nat):aH TZp (afg n):=bg Tryz.f72 (dr:=Qp) (js:=aht n) (hT:=⟨.nil,K5 n,(Qq n),(.cc (US n) (.cc (UR n) .nil)),(.cc (.cc (.cc (.cc (.cc .nil)))))⟩)
def nX:uC (Int->Int->Int->Int->M Int):=λG n a0 a1 a2 a3=>if decide (a3<a1) then sh (nh n a0 a3) λx0=>G a0 a1 (i64.wrap (a2+x0)) (i64.wrap (a3+1)) else AI a2
def jV:=lp nX
theorem qU (n:Nat):jV (n+1)=nX (jV n) n:=rfl
def Cm (n:Nat)(a0 a1 a2:Int):M (Int×Int):=sh (uD n a0) λx0=>sh (jV n a0 a1 (i64.wrap (i64.wrap (i64.wrap (x0+a2)-1)-719528)) 1) λx1=>AI (x1,0)
def za (n:Nat)(a0 a1 a2:Int):M (Int×Int):=if decide (a0<0) then AI (0,13) else if decide (9999<a0) then AI (0,13) else if decide (a1<1) then AI (0,13) else if decide (12<a1) then AI (0,13) else if decide (a2<1) then AI (0,13) else sh (nh n a0 a1) λx0=>if decide (x0<a2) then AI (0,13) else Cm n a0 a1 a2
abbrev Yx (n:Nat):dZ:=eN 108 [aw,aw,aw] [aw,aw] (za n)
abbrev acD:=L1 (bL 87) [(0,aw),(1,aw),(8,aw),(9,aw)] [(8,aw)] ([8,9]++rG 41 10) 0 jV
abbrev acE (n:Nat):List (iV (Int×Int)):=[jN [0,1,1] [.code [1,1,1]] [(0,aw),(1,aw),(2,aw)] (Cm n)]
def Qr (n:Nat):=acD.k TZp Tryz.f108 n (hT:=λm _=>.m1 (K5 m))
def Jp (n:Nat):aH TZp (Yx n):=bg Tryz.f108 (js:=acE n) (hT:=⟨.nil,K5 n,.nil,(.cc (Qr n) .nil),(.cc .nil)⟩)
def qH:uC (Int->Int->Int->M (Int×Int)):=λG n a0 a1 a2=>sh (nh n a1 a2) λx0=>if decide (x0<=a0) then sh (nh n a1 a2) λx1=>G (i64.wrap (a0-x1)) a1 (i64.wrap (a2+1)) else AI (a0,a2)
def lN:=lp qH
theorem wA (n:Nat):lN (n+1)=qH (lN n) n:=rfl
def qI:uC (Int->Int->M Int):=λG n a0 a1=>sh (uD n (i64.wrap (a1+1))) λx0=>if decide (x0<=a0) then G a0 (i64.wrap (a1+1)) else AI a1
def lO:=lp qI
theorem wB (n:Nat):lO (n+1)=qI (lO n) n:=rfl
def xH (n:Nat)(a0:Int):M (Int×Int×Int×Int):=sh (pB (decide (366≠0))) λx0=>sh (lO n (i64.wrap (a0+719528)) (i64.wrap ((i64.wrap (a0+719528)).tdiv 366))) λx1=>sh (uD n x1) λx2=>sh (lN n (i64.wrap (i64.wrap (a0+719528)-x2)) x1 1) λx3=>AI (x1,x3.2,i64.wrap (x3.1+1),0)
def CX (n:Nat)(a0:Int):M (Int×Int×Int×Int):=if decide (a0 < -719528) then AI (0,0,0,13) else if decide (2932896<a0) then AI (0,0,0,13) else xH n a0
abbrev Yy (n:Nat):dZ:=eN 109 [aw] [aw,aw,aw,aw] (CX n)
abbrev acF:=L1 (bL 79) [(6,aw),(7,aw)] [(7,aw)] ([7]++rG 19 7) 0 lO
abbrev acG:=L1 (bL 639) [(6,aw),(7,aw),(8,aw)] [(6,aw),(8,aw)] ([6,8]++rG 30 12) 2 lN
abbrev acH (n:Nat):List (iV (Int×Int×Int×Int)):=[jN [0,1,1] [.code [1,1,1]] [(0,aw)] (xH n)]
def Qs (n:Nat):=acG.k TZp Tryz.f109 n (hT:=λm _=>.m1 (K5 m))
def Qt (n:Nat):=acF.k TZp Tryz.f109 n (hT:=λm _=>.m1 (K5 m))
def Jq (n:Nat):aH TZp (Yy n):=bg Tryz.f109 (js:=acH n) (hT:=⟨.nil,K5 n,.nil,(.cc (Qt n) (.cc (Qs n) .nil)),(.cc .nil)⟩)
def im (n:Nat)(a0:Addr)(a1:ζ):M ζ:=lI a0 9 λx0=>if decide (0<x0) then lI a0 9 λx1=>sh (jU n x1 9) λx2=>sh (hY n x2 (ofBytes [48])) λx3=>sh (kK (ofBytes [46]) x3) λx4=>sh (kK a1 x4) λx5=>AI x5 else AI a1
def ep (n:Nat)(a0:Addr)(a1:ζ):M ζ:=lI a0 0 λx0=>if !decide (x0=1) then sh (pB (decide (0<=3/\3<(↑8:Int)))) λx1=>sh (pB (decide (0<=4/\4<(↑8:Int)))) λx2=>sh (pB (decide (0<=5/\5<(↑8:Int)))) λx3=>lI (a0.plus 1) 3 λx4=>lI (a0.plus 1) 4 λx5=>lI (a0.plus 1) 5 λx6=>sh (uw [some ((a0.plus 1).plus 4),some ((a0.plus 1).plus 5)] (jU n x4 2)) λx7=>sh (kK x7 (ofBytes [58])) λx8=>sh (uw [some ((a0.plus 1).plus 5)] (jU n x5 2)) λx9=>sh (kK x8 x9) λx10=>sh (kK x10 (ofBytes [58])) λx11=>sh (jU n x6 2) λx12=>sh (kK x11 x12) λx13=>sh (kK a1 x13) λj5=>im n a0 j5 else im n a0 a1
def jK (n:Nat)(a0:J11):M ζ:=nW bP [vi a0.1,vi a0.2.1,vi a0.2.2.1,vi a0.2.2.2.1,vi a0.2.2.2.2.1,vi a0.2.2.2.2.2.1,vi a0.2.2.2.2.2.2.1,vi a0.2.2.2.2.2.2.2.1,vi a0.2.2.2.2.2.2.2.2.1,vi a0.2.2.2.2.2.2.2.2.2.1,.int IntKind.u8 a0.2.2.2.2.2.2.2.2.2.2] λx0=>lI (ak x0) 0 λx1=>if !decide (x1=2) then sh (pB (decide (0<=0/\0<(↑8:Int)))) λx2=>sh (pB (decide (0<=1/\1<(↑8:Int)))) λx3=>sh (pB (decide (0<=2/\2<(↑8:Int)))) λx4=>sh (e9 li (((ak x0).plus 1).plus 0)) λ(x5:Int)=>sh (e9 li (((ak x0).plus 1).plus 1)) λ(x6:Int)=>sh (e9 li (((ak x0).plus 1).plus 2)) λ(x7:Int)=>sh (uw [some (((ak x0).plus 1).plus 1),some (((ak x0).plus 1).plus 2)] (jU n x5 4)) λx8=>sh (kK x8 (ofBytes [45])) λx9=>sh (uw [some (((ak x0).plus 1).plus 2)] (jU n x6 2)) λx10=>sh (kK x9 x10) λx11=>sh (kK x11 (ofBytes [45])) λx12=>sh (jU n x7 2) λx13=>sh (kK x12 x13) λj5=>lI (ak x0) 0 λx15=>if decide (x15=3) then sh (kK j5 (ofBytes [84])) λrA=>ep n (ak x0) rA else ep n (ak x0) j5 else lI (ak x0) 0 λx2=>if decide (x2=3) then sh (kK (ofBytes []) (ofBytes [84])) λx3=>ep n (ak x0) x3 else ep n (ak x0) (ofBytes [])
abbrev Yz (n:Nat):dZ:=eN 110 [.agg [.int .i64,.int .i64,.int .i64,.int .i64,.int .i64,.int .i64,.int .i64,.int .i64,.int .i64,.int .i64,.int .u8]] [pX] (jK n)
def acI:=dR [(3,[0,1,5,6,11,12,2,7,13,14008003,4,14008,9,10,14,15,16]),(7,[0,1,2,6,7,12,13,3,8,14,15009004,5,15009,10,11,15,16,17,18])]
abbrev acJ (n:Nat):List (iV ζ):=[jN (bL 79) [.code (bL 111),.code [1,1,1,1,1]] [(1,aG),(3,pX)] (ep n), jN (bL 159) [.code (bL 223),.code (bL 127)] [(1,aG),(3,pX)] (im n)]
def zb (n:Nat):aH TZp (Yz n):=bg Tryz.f110 (dr:=acI) (js:=acJ n) (hT:=.m3 (K5 n) (.cc (.cc .nil)))
def sr:uC (Addr->Sl->Sl->Int->Int->Sl->Int->Int->M Unit):=λG n a0 a1 a2 a3 a4 a5 a6 a7=>if decide (a7<a6) then iX a5 a7 1 λx0=>eI x0 λx1=>gL a0 λx2=>sh (oi n (x2.1,x2.2) x1 a1) λx3=>G a0 a1 a2 a3 a4 a5 a6 (i64.wrap (a7+1)) else AI ()
def nY:=lp sr
theorem AZ (n:Nat):nY (n+1)=sr (nY n) n:=rfl
def su:uC (Addr->Sl->Sl->Int->Int->M Unit):=λG n a0 a1 a2 a3 a4=>if decide (a4<a3) then iX a2 a4 5 λx0=>nL x0 λx1=>nW az [vi 0,.string (ofBytes []),.bool false,aI,aI] λx2=>sN (ak x2) [vi x1.1,.string x1.2.1,.bool x1.2.2.1,aC x1.2.2.2.1,aC x1.2.2.2.2] λx3=>lS (ak x2) 3 λx4=>sh (nY n a0 a1 a2 a3 a4 x4 (↑x4.len:Int) 0) λx5=>G a0 a1 a2 a3 (i64.wrap (a4+1)) else AI ()
def nZ:=lp su
theorem A0 (n:Nat):nZ (n+1)=su (nZ n) n:=rfl
def vD (n:Nat)(a0:Sl×Int):M Sl:=nW ah [aC a0.1,vi a0.2] λx0=>lS (ak x0) 0 λx1=>sh (An none xC [.bool false] (↑x1.len:Int) (↑x1.len:Int)) λx2=>lS (ak x0) 0 λx3=>sh (nZ n (ak x0) x2 x3 (↑x3.len:Int) 0) λx4=>AI x2
abbrev afh (n:Nat):dZ:=eN 32 [.agg [.sl,.int .i64]] [cB] (vD n)
abbrev ahu:=L1 [0,1,0,1,1] [(1,aG),(3,cB),(13,cB),(14,aw),(15,aw)] [] ([5,7]++rG 15 17) 0 nZ
abbrev ahv:=L1 (bL 11467) [(1,aG),(3,cB),(13,cB),(14,aw),(15,aw),(20,cB),(21,aw),(22,aw)] [] ([7]++rG 22 9) 2 nY
def UT (n:Nat):=ahv.k TZp Tryz.f32 n (hT:=λm _=>.m1 (K5 m))
def UU (n:Nat):=ahu.k TZp Tryz.f32 n (hT:=λm _=>.m2 (K5 m) (.cc (UT m) .nil))
def Gn (n:Nat):aH TZp (afh n):=bg Tryz.f32 (hT:=.m2 (K5 n) (.cc (UU n) .nil))
def tN:uC (Addr->Sl->Sl->Bool->Sl->Sl->Int->Int->Int->Sl->Int->Int->Sl->Int->Int->Sl->Int->Int->M Bool):=λG n a0 a1 a2 a3 a4 a5 a6 a7 a8 a9 a10 a11 a12 a13 a14 a15 a16 a17=>if decide (a17<a16) then iX a15 a17 1 λx0=>eI x0 λx1=>iX a1 x1 1 λx2=>eI x2 λx3=>if decide (x3=a6) then G a0 a1 a2 false a4 a5 a6 a7 a8 a9 a10 a11 a12 a13 a14 a15 a16 (i64.wrap (a17+1)) else iX a4 a6 1 λx4=>iX a1 x1 1 λx5=>eI x4 λx6=>eI x5 λx7=>iX a4 x7 1 λx8=>eI x8 λx9=>iX a4 a6 1 λx10=>sN x10 [vi (if x6<x9 then x9 else x6)] λx11=>G a0 a1 a2 a3 a4 a5 a6 a7 a8 a9 a10 a11 a12 a13 a14 a15 a16 (i64.wrap (a17+1)) else AI a3
def o6:=lp tN
theorem B4 (n:Nat):o6 (n+1)=tN (o6 n) n:=rfl
def mB:uC (Addr->Sl->Sl->Bool->Sl->Sl->Int->Int->Int->Sl->Int->Int->Sl->Int->Int->M Bool):=λG n a0 a1 a2 a3 a4 a5 a6 a7 a8 a9 a10 a11 a12 a13 a14=>if decide (a14<a13) then iX a12 a14 1 λx0=>eS x0 λx1=>sh (o6 n a0 a1 a2 a3 a4 a5 a6 a7 a8 a9 a10 a11 a12 a13 a14 x1 (↑x1.len:Int) 0) λx2=>G a0 a1 a2 x2 a4 a5 a6 a7 a8 a9 a10 a11 a12 a13 (i64.wrap (a14+1)) else AI a3
def o7:=lp mB
theorem p9 (n:Nat):o7 (n+1)=mB (o7 n) n:=rfl
def tO:uC (Addr->Sl->Sl->Bool->Sl->Sl->Int->Int->Int->Sl->Int->Int->M Bool):=λG n a0 a1 a2 a3 a4 a5 a6 a7 a8 a9 a10 a11=>if decide (a11<a10) then iX a9 a11 1 λx0=>eI x0 λx1=>sh (eE 15) λx2=>lS a0 0 λx3=>iX x3 x1 5 λx4=>lS x4 3 λx5=>lS a0 0 λx6=>iX x6 x1 5 λx7=>lS x7 4 λx8=>sh (iR (some (x2+12)) aJ [aC x5,aC x8]) λx9=>sh (o7 n a0 a1 a2 a3 a4 a5 a6 a7 a8 a9 a10 a11 { a:=some (ak x9),len:=2,cap:=3 } (↑2:Int) 0) λx10=>G a0 a1 a2 x10 a4 a5 a6 a7 a8 a9 a10 (i64.wrap (a11+1)) else AI a3
def o8:=lp tO
theorem B5 (n:Nat):o8 (n+1)=tO (o8 n) n:=rfl
def tP:uC (Addr->Sl->Sl->Bool->Sl->Sl->Int->Int->M Bool):=λG n a0 a1 a2 a3 a4 a5 a6 a7=>if decide (a7<a6) then iX a5 a7 1 λx0=>eS x0 λx1=>sh (o8 n a0 a1 a2 a3 a4 a5 a7 a6 a7 x1 (↑x1.len:Int) 0) λx2=>iX a4 a7 1 λx3=>iX a2 a7 1 λx4=>eI x3 λx5=>eI x4 λx6=>iX a4 a7 1 λx7=>sN x7 [vi (i64.wrap (x5+x6))] λx8=>G a0 a1 a2 x2 a4 a5 a6 (i64.wrap (a7+1)) else AI a3
def o9:=lp tP
theorem B6 (n:Nat):o9 (n+1)=tP (o9 n) n:=rfl
def tQ:uC (Addr->Sl->Sl->Bool->Sl->Sl->Sl->Int->Int->M Unit):=λG n a0 a1 a2 a3 a4 a5 a6 a7 a8=>if decide (a8<a7) then iX a6 a8 1 λx0=>eI x0 λx1=>iX a5 x1 1 λx2=>eS x2 λx3=>sh (app false x3 1 au 1 [vi a8]) λx4=>iX a5 x1 1 λx5=>sN x5 [aC x4] λx6=>G a0 a1 a2 a3 a4 a5 a6 a7 (i64.wrap (a8+1)) else AI ()
def pc:=lp tQ
theorem B7 (n:Nat):pc (n+1)=tQ (pc n) n:=rfl
def uF (n:Nat)(a0:Sl×Int):M (Int×Bool):=nW ah [aC a0.1,vi a0.2] λx0=>gL (ak x0) λx1=>sh (pN n (x1.1,x1.2)) λx2=>sh (An none au [vi 0] (↑x2.2.len:Int) (↑x2.2.len:Int)) λx3=>sh (An none aJ [aI] (↑x2.2.len:Int) (↑x2.2.len:Int)) λx4=>sh (pc n (ak x0) x2.1 x2.2 true x3 x4 x2.1 (↑x2.1.len:Int) 0) λx5=>sh (o9 n (ak x0) x2.1 x2.2 true x3 x4 (↑x2.2.len:Int) 0) λx6=>lI (ak x0) 1 λx7=>iX x2.1 x7 1 λx8=>eI x8 λx9=>iX x3 x9 1 λx10=>eI x10 λx11=>AI (i64.wrap (x11-1),x6)
abbrev afi (n:Nat):dZ:=eN 34 [.agg [.sl,.int .i64]] [aw,jF] (uF n)
abbrev ahw:=L1 (bL 351) [(1,aG),(4,cB),(5,cB),(6,jF),(7,cB),(8,cB),(29,cB),(30,aw),(31,aw)] [] ([9,10]++rG 31 16) 0 pc
abbrev ahx:=L1 (bL 703) [(1,aG),(4,cB),(5,cB),(6,jF),(7,cB),(8,cB),(48,aw),(49,aw)] [(6,jF)] ([6,11,13,15,17]++rG 49 71) 2 o9
abbrev ahy:=L1 (bL 347327) [(1,aG),(4,cB),(5,cB),(6,jF),(7,cB),(8,cB),(11,aw),(48,aw),(49,aw),(55,cB),(56,aw),(57,aw)] [(6,jF)] ([6,13,15,17]++rG 57 52) 4 o8
abbrev ahz:=L1 (bL 93932735) [(1,aG),(4,cB),(5,cB),(6,jF),(7,cB),(8,cB),(11,aw),(48,aw),(49,aw),(55,cB),(56,aw),(57,aw),(73,cB),(74,aw),(75,aw)] [(6,jF)] ([6,15,17]++rG 75 33) 6 o7
abbrev ahA:=L1 (bL 24051797183) [(1,aG),(4,cB),(5,cB),(6,jF),(7,cB),(8,cB),(11,aw),(48,aw),(49,aw),(55,cB),(56,aw),(57,aw),(73,cB),(74,aw),(75,aw),(79,cB),(80,aw),(81,aw)] [(6,jF)] ([6,17]++rG 81 26) 8 o6
def Fb:=dR [(16,[0,2,6,8,14,1,3,4,5,7]++rG 9 5),(24,rG 0 5++[6,7,8,9,5]++rG 10 6),(28,[0,1,2,4,5,6,3,7,8,9,10])]
def UW (n:Nat):=ahA.k TZp Tryz.f34 n (dr:=Fb) (hT:=λm _=>.m1 (K5 m))
def UX (n:Nat):=ahz.k TZp Tryz.f34 n (dr:=Fb) (hT:=λm _=>.m2 (K5 m) (.cc (UW m) .nil))
def UY (n:Nat):=ahy.k TZp Tryz.f34 n (dr:=Fb) (hT:=λm _=>.m2 (K5 m) (.cc (UX m) .nil))
def UZ (n:Nat):=ahx.k TZp Tryz.f34 n (dr:=Fb) (hT:=λm _=>.m2 (K5 m) (.cc (UY m) .nil))
def U0 (n:Nat):=ahw.k TZp Tryz.f34 n (dr:=Fb) (hT:=λm _=>.m1 (K5 m))
def H4 (n:Nat):aH TZp (afi n):=bg Tryz.f34 (dr:=Fb) (hT:=.m2 (K5 n) (.cc (U0 n) (.cc (UZ n) .nil)))
def kc (n:Nat)(a0 a1:Addr):M Int:=lB a0 0 λx0=>if x0 then lS a1 1 λx1=>lS a0 1 λx2=>sh (r9 n x1 x2) λx3=>AI x3 else lS a0 1 λx1=>lS a1 1 λx2=>sh (r9 n x1 x2) λx3=>AI x3
def sv (n:Nat)(a0 a1:Addr):M Int:=lB a0 0 λx0=>if x0 then lB a1 0 λx1=>if !x1 then AI (-1) else lB a0 0 λx2=>if !x2 then lB a1 0 λx3=>if x3 then AI 1 else kc n a0 a1 else kc n a0 a1 else lB a0 0 λx1=>if !x1 then lB a1 0 λx2=>if x2 then AI 1 else kc n a0 a1 else kc n a0 a1
def xi (n:Nat)(a0 a1:ζ):M Int:=sh (pL n a0) λx0=>nW aF [.bool false,aI] λx1=>sN (ak x1) [.bool x0.1.1,aC x0.1.2] λx2=>sh (pL n a1) λx3=>nW aF [.bool false,aI] λx4=>sN (ak x4) [.bool x3.1.1,aC x3.1.2] λx5=>if !x0.2 then AI 0 else if !x3.2 then AI 0 else sv n (ak x1) (ak x4)
abbrev YA (n:Nat):dZ:=eN 116 [pX,pX] [aw] (xi n)
abbrev acK (n:Nat):List (iV Int):=[jN (bL 143) [.code (bL 207),.ar 0,.code [1,1,1,1,1]] [(5,aG),(7,aG)] (sv n), jN (bL 3023) [.code (bL 4047),.ar 0,.code [1,1,1,1,1]] [(5,aG),(7,aG)] (kc n)]
def H5 (n:Nat):aH TZp (YA n):=bg Tryz.f116 (js:=acK n) (hT:=.m3 (K5 n) (.cc (.cc .nil)))
def qJ (n:Nat)(a0 a1:Bool×Sl×Int):M Int:=nW bz [.bool a0.1,aC a0.2.1,vi a0.2.2] λx0=>nW bz [.bool a1.1,aC a1.2.1,vi a1.2.2] λx1=>lB (ak x0) 0 λx2=>lB (ak x1) 0 λx3=>if !x2==x3 then lB (ak x0) 0 λx4=>if x4 then AI (-1) else AI 1 else sh (bY [.bool,.sl,li] (ak x0)) λ(x4:Bool×Sl×Int)=>sh (bY [.bool,.sl,li] (ak x1)) λ(x5:Bool×Sl×Int)=>sh (np n (x4.1,x4.2.1,x4.2.2) (x5.1,x5.2.1,x5.2.2)) λx6=>sh (uo n x6) λx7=>lB (ak x0) 0 λx8=>if x8 then AI (i64.wrap (0-x7)) else AI x7
abbrev YB (n:Nat):dZ:=eN 143 [.agg [.bool,.sl,.int .i64],.agg [.bool,.sl,.int .i64]] [aw] (qJ n)
def CY (n:Nat):aH TZp (YB n):=bg Tryz.f143 (hT:=.m1 (K5 n))
def strings_Compare (n:Nat)(a0 a1:ζ):M Int:=sh (mA n a0 a1) λx0=>AI x0
abbrev YC (n:Nat):dZ:=eN 119 [pX,pX] [aw] (strings_Compare n)
def CZ (n:Nat):aH TZp (YC n):=bg Tryz.f119 (hT:=.m1 (K5 n))
def oB (n:Nat)(a0:Int):M Int:=sh (qp n (IntKind.u64.wrap a0)) λx0=>sh (pB (decide (0<=x0))) λx1=>AI (IntKind.u64.wrap (1*2^min (Int.toNat x0) 64))
abbrev YD (n:Nat):dZ:=eN 112 [aw] [.one (.int .u64)] (oB n)
def xI (n:Nat):aH TZp (YD n):=bg Tryz.f112 (hT:=.m1 (K5 n))
def aD (n:Nat)(a0:θ)(a1:Int):M ο:=sh (fJ n a0) λx0=>sh (nn a0) λx1=>lS x1 1 λx2=>sh (app false x2 1 gU 1 [.int IntKind.u8 a1]) λx3=>sh (nn a0) λx4=>sN (x4.plus 1) [aC x3] λx5=>AI Value.nilIface
abbrev afj (n:Nat):dZ:=eN 43 [vS,.one (.int .u8)] [tG] (aD n)
def u4 (n:Nat):aH TZp (afj n):=bg Tryz.f43 (hT:=.m1 (K5 n))
def eP (n:Nat)(a0:θ)(a1:ζ):M (Int×ο):=sh (fJ n a0) λx0=>sh (nn a0) λx1=>lS x1 1 λx2=>sh (app false x2 1 gU a1.size (bK a1)) λx3=>sh (nn a0) λx4=>sN (x4.plus 1) [aC x3] λx5=>AI ((↑a1.size:Int),Value.nilIface)
abbrev afk (n:Nat):dZ:=eN 42 [vS,pX] [aw,tG] (eP n)
def tR (n:Nat):aH TZp (afk n):=bg Tryz.f42 (hT:=.m1 (K5 n))
def wC (n:Nat)(x:ο)(a0:Sl):M Sl:=if rC rQ x then sh (qj [aG] x) λ(c:Addr)=>se n a0 c else AS
def wD (n:Nat)(x:ο)(a0:Sl):M Sl:=if rC rQ x then sh (qj [aG] x) λ(c:Addr)=>se n a0 c else AS
def u5:uC (Addr->Sl->Addr->ο->Sl->Int->Int->M Unit):=λG n a0 a1 a2 a3 a4 a5 a6=>if decide (a6<a5) then iX a4 a6 5 λx0=>nL x0 λx1=>nW az [vi 0,.string (ofBytes []),.bool false,aI,aI] λx2=>sN (ak x2) [vi x1.1,.string x1.2.1,.bool x1.2.2.1,aC x1.2.2.2.1,aC x1.2.2.2.2] λx3=>iX a1 a6 1 λx4=>eB x4 λx5=>if x5 then lS (ak x2) 3 λx6=>lS (ak x2) 4 λx7=>sh (uw [some ((ak x2).plus 4)] (wC n a3 x6)) λx8=>sh (wD n a3 x7) λx9=>sN ((ak x2).plus 3) [aC x8] λx10=>sN ((ak x2).plus 4) [aC x9] λx11=>lS a2 0 λx12=>nL (ak x2) λx13=>sh (app false x12 5 az 1 [vi x13.1,.string x13.2.1,.bool x13.2.2.1,aC x13.2.2.2.1,aC x13.2.2.2.2]) λj5=>sN (a2.plus 0) [aC j5] λx15=>G a0 a1 a2 a3 a4 a5 (i64.wrap (a6+1)) else G a0 a1 a2 a3 a4 a5 (i64.wrap (a6+1)) else AI ()
def qs:=lp u5
theorem Da (n:Nat):qs (n+1)=u5 (qs n) n:=rfl
def u6:uC (Addr->Addr->Sl->Addr->Int->Sl->Int->Int->M Unit):=λG n a0 a1 a2 a3 a4 a5 a6 a7=>if decide (a7<a6) then iX a5 a7 1 λx0=>eB x0 λx1=>eS a3 λx2=>iX x2 a7 1 λx3=>sN x3 [vi a4] λx4=>if x1 then G a0 a1 a2 a3 (i64.wrap (a4+1)) a5 a6 (i64.wrap (a7+1)) else G a0 a1 a2 a3 a4 a5 a6 (i64.wrap (a7+1)) else AI ()
def qt:=lp u6
theorem Db (n:Nat):qt (n+1)=u6 (qt n) n:=rfl
def zg (n:Nat)(a0:Sl×Int):M (Sl×Int):=nW ah [aC a0.1,vi a0.2] λx0=>nW ah [aI,vi 0] λx1=>lS (ak x0) 0 λx2=>sh (An none xC [.bool false] (↑x2.len:Int) (↑x2.len:Int)) λx3=>gL (ak x0) λx4=>lI (ak x0) 1 λx5=>sh (oi n (x4.1,x4.2) x5 x3) λx6=>lS (ak x0) 0 λx7=>sh (An none au [vi 0] (↑x7.len:Int) (↑x7.len:Int)) λx8=>nW aJ [aI] λx9=>sN (ak x9) [aC x8] λx10=>sh (qt n (ak x0) (ak x1) x3 (ak x9) 0 x3 (↑x3.len:Int) 0) λx11=>sh (e9 .sl (ak x9)) λ(x12:Sl)=>lI (ak x0) 1 λx13=>iX x12 x13 1 λj5=>eI j5 λx15=>nW ah [aI,vi 0] λrA=>sN (ak rA) [aI,vi x15] λx17=>lS (ak x0) 0 λw4=>sh (qs n (ak x1) x3 (ak rA) (Value.func (Fn.func rQ) #[] #[.pointer (some (ak x9))]) w4 (↑w4.len:Int) 0) λx19=>gL (ak rA) λx20=>sN (ak x1) [aC x20.1,vi x20.2] λx21=>gL (ak x1) λx22=>AI (x22.1,x22.2)
abbrev afl (n:Nat):dZ:=eN 27 [.agg [.sl,.int .i64]] [.agg [.sl,.int .i64]] (zg n)
abbrev ahB:=L1 (bL 351) [(1,aG),(2,aG),(3,cB),(4,aG),(5,aw),(25,cB),(26,aw),(27,aw)] [] ([5,6,7]++rG 27 13) 0 qt
abbrev ahC:=L1 (bL 2815) [(2,aG),(3,cB),(8,aG),(9,tG),(48,cB),(49,aw),(50,aw)] [] ([10,11]++rG 50 26) 2 qs
abbrev ahD (n:Nat):List ru:=[dN 59 [cB] [cB] (wC n), dN 63 [cB] [cB] (wD n)]
def Qu:=dR [(18,[0,1,4,5,2,6,7003,8,7,9,10,11])]
def Qv (n:Nat):qO TZp (ahD n):=.cons (dj (.cons (oQ [aG] (uY n)) .nil)) (.cons (dj (.cons (oQ [aG] (uY n)) .nil)) .nil)
def U1 (n:Nat):=ahC.k TZp Tryz.f27 n (dr:=Qu) (hT:=λm _=>⟨.nil,K5 m,(Qv m),.nil,.nil⟩)
def U2 (n:Nat):=ahB.k TZp Tryz.f27 n (dr:=Qu) (hT:=λm _=>⟨.nil,K5 m,(Qv m),.nil,.nil⟩)
def Jr (n:Nat):aH TZp (afl n):=bg Tryz.f27 (dr:=Qu) (hT:=⟨.nil,K5 n,(Qv n),(.cc (U2 n) (.cc (U1 n) .nil)),.nil⟩)
def b6 (n:Nat)(x:ο)(a0 a1:Int×ζ×Bool×Sl×Sl):M Bool:=if rC rP x then sh (qj [] x) λ(_:Unit)=>vC n a0 a1 else AS
def bX:uC (Sl->ο->Sl->Int->Int->M (Unit⊕Bool)):=λG n a0 a1 a2 a3 a4=>if decide (a4<a3) then iX a2 a4 5 λx0=>nL x0 λx1=>nW az [vi 0,.string (ofBytes []),.bool false,aI,aI] λx2=>sN (ak x2) [vi x1.1,.string x1.2.1,.bool x1.2.2.1,aC x1.2.2.2.1,aC x1.2.2.2.2] λx3=>iX a0 a4 5 λx4=>nL x4 λx5=>nW az [vi 0,.string (ofBytes []),.bool false,aI,aI] λx6=>sN (ak x6) [vi x5.1,.string x5.2.1,.bool x5.2.2.1,aC x5.2.2.2.1,aC x5.2.2.2.2] λx7=>nL (ak x2) λx8=>nL (ak x6) λx9=>sh (b6 n a1 (x8.1,x8.2.1,x8.2.2.1,x8.2.2.2.1,x8.2.2.2.2) (x9.1,x9.2.1,x9.2.2.1,x9.2.2.2.1,x9.2.2.2.2)) λx10=>if !x10 then AI (Sum.inr false) else G a0 a1 a2 a3 (i64.wrap (a4+1)) else AI (Sum.inl ())
def aL:=lp bX
theorem iI (n:Nat):aL (n+1)=bX (aL n) n:=rfl
def bj (n:Nat)(a0 a1:Sl)(a2:ο):M Bool:=if !decide ((↑a0.len:Int)=(↑a1.len:Int)) then AI false else sh (aL n a1 a2 a0 (↑a0.len:Int) 0) (dX (λx0=>AI true) (λx0=>AI x0))
abbrev afm (n:Nat):dZ:=eN 18 [cB,cB,tG] [jF] (bj n)
abbrev ahE:=L2 [0,1,0,1,1] [(1,cB),(2,tG),(15,cB),(16,aw),(17,aw)] [] [(6,jF)] ([6,7,8,9]++rG 17 15) 0 .ret aL
abbrev ahF (n:Nat):List ru:=[dN 26 [.agg [.int .i64,.str,.bool,.sl,.sl],.agg [.int .i64,.str,.bool,.sl,.sl]] [jF] (b6 n)]
def YE (n:Nat):qO TZp (ahF n):=.cons (dj (.cons (oQ [] (zL n)) .nil)) .nil
def U3 (n:Nat):=ahE.k TZp Tryz.f18 n (hT:=λm _=>⟨.nil,K5 m,(YE m),.nil,.nil⟩)
def jk (n:Nat):aH TZp (afm n):=bg Tryz.f18 (hT:=⟨.nil,K5 n,(YE n),(.cc (U3 n) .nil),.nil⟩)
abbrev C6 (n:Nat):List dZ:=afd n::afe n::aff n::Yu n::Yv n::Yw n::afg n::Yx n::Yy n::Yz n::afh n::afi n::YA n::YB n::YC n::YD n::afj n::afk n::afl n::afm n::C5 n
def K6 (n:Nat):eY TZp (C6 n):=.cons (Fa n) (.cons (B3 n) (.cons (H3 n) (.cons (Jo n) (.cons (D7 n) (.cons (Gl n) (.cons (Gm n) (.cons (Jp n) (.cons (Jq n) (.cons (zb n) (.cons (Gn n) (.cons (H4 n) (.cons (H5 n) (.cons (CY n) (.cons (CZ n) (.cons (xI n) (.cons (u4 n) (.cons (tR n) (.cons (Jr n) (.cons (jk n) (K5 n))))))))))))))))))))
def qK (n:Nat)(a0:ζ)(a1:Addr)(a2:Int):M ((Bool×Sl×Int)×Bool):=sh (iE a0 (i64.wrap (a2+1)) (↑a0.size:Int)) λx0=>sh (strconv_Atoi n x0) λx1=>sh (kL x1.2) λx2=>if !x2 then sN a1 [.bool false,aI,vi 0] λx3=>sh (bY [.bool,.sl,li] a1) λ(x4:Bool×Sl×Int)=>AI ((x4.1,x4.2.1,x4.2.2),false) else sh (iE a0 0 a2) λx3=>sh (strings_TrimPrefix n x3 (ofBytes [45])) λx4=>sh (eE 9) λx5=>sh (kF a0 0) λx6=>sh (um n x4) λx7=>sh (vz n (decide ((↑x6.toNat:Int)=45)) x7 x1.1) λx8=>sh (iR (some (x5+7)) bz [.bool false,aI,vi 0]) λx9=>sN (ak x9) [.bool x8.1,aC x8.2.1,vi x8.2.2] λx10=>sh (bY [.bool,.sl,li] (ak x9)) λ(x11:Bool×Sl×Int)=>sh (bY [.bool,.sl,li] (ak x9)) λ(x12:Bool×Sl×Int)=>sh (uw [some (ak x9)] (oI n (x12.1,x12.2.1,x12.2.2))) λx13=>if decide (x13=0) then sh (bY [.bool,.sl,li] (ak x9)) λ(j5:Bool×Sl×Int)=>sh (uw [some (ak x9)] (pO n (j5.1,j5.2.1,j5.2.2))) λx15=>sN a1 [.bool x11.1,aC x11.2.1,vi x11.2.2] λrA=>sh (bY [.bool,.sl,li] a1) λ(x17:Bool×Sl×Int)=>AI ((x17.1,x17.2.1,x17.2.2),mM x15 a0) else sN a1 [.bool x11.1,aC x11.2.1,vi x11.2.2] λj5=>sh (bY [.bool,.sl,li] a1) λ(x15:Bool×Sl×Int)=>AI ((x15.1,x15.2.1,x15.2.2),false)
def pP (n:Nat)(a0:ζ):M ((Bool×Sl×Int)×Bool):=nW bz [.bool false,aI,vi 0] λx0=>sh (strings_IndexByte n a0 101) λx1=>if decide (x1<0) then sN (ak x0) [.bool false,aI,vi 0] λx2=>sh (bY [.bool,.sl,li] (ak x0)) λ(x3:Bool×Sl×Int)=>AI ((x3.1,x3.2.1,x3.2.2),false) else sh (iE a0 0 x1) λx2=>sh (qq n x2) λx3=>if !x3 then sN (ak x0) [.bool false,aI,vi 0] λx4=>sh (bY [.bool,.sl,li] (ak x0)) λ(x5:Bool×Sl×Int)=>AI ((x5.1,x5.2.1,x5.2.2),false) else if decide (6<i64.wrap ((↑a0.size:Int)-x1)) then sN (ak x0) [.bool false,aI,vi 0] λx4=>sh (bY [.bool,.sl,li] (ak x0)) λ(x5:Bool×Sl×Int)=>AI ((x5.1,x5.2.1,x5.2.2),false) else qK n a0 (ak x0) x1
abbrev afn (n:Nat):dZ:=eN 69 [pX] [.agg [.bool,.sl,.int .i64],jF] (pP n)
def ahG:=dR [(8,[0,1,2,3,5,4,6,7,8]),(9,[0,1,1002,3,4,7,5,1006,8,9,10,11])]
abbrev ahH (n:Nat):List (iV ((Bool×Sl×Int)×Bool)):=[jN [0,1,1,1] [.code [1,1,1,1]] [(0,pX),(2,aG),(4,aw)] (qK n)]
def Gp (n:Nat):aH TZp (afn n):=bg Tryz.f69 (dr:=ahG) (js:=ahH n) (hT:=.m3 (K6 n) (.cc .nil))
def uq (n:Nat)(a0 a1:Int)(a2:Nat):M (Nat):=sh (pB (decide (0<=52))) λx0=>sh (bC n (IntKind.u64.wrap (↑(BitVec.ofInt 64 (IntKind.u64.wrap (↑(BitVec.ofInt 64 a1&&&~~~BitVec.ofInt 64 9218868437227405312).toNat:Int))|||BitVec.ofInt 64 (IntKind.u64.wrap (IntKind.u64.wrap (i64.wrap (a0+1023))*2^52))).toNat:Int))) λx1=>sh (MS a2 x1) λx2=>AI x2
def Cn (n a0:Nat)(a1:Int):M (Nat):=sh (wz n a0) λx0=>sh (cd n x0.1) λx1=>sh (pB (decide (0<=52))) λx2=>if decide (i64.wrap (i64.wrap (a1+x0.2)+i64.wrap (i64.wrap (↑(BitVec.ofInt 64 (i64.wrap (Int.fdiv x1 (2^52)))&&&BitVec.ofInt 64 2047).toNat:Int)-1023)) < -1075) then sh (jT n 0 x0.1) λx3=>AI x3 else if decide (1023<i64.wrap (i64.wrap (a1+x0.2)+i64.wrap (i64.wrap (↑(BitVec.ofInt 64 (i64.wrap (Int.fdiv x1 (2^52)))&&&BitVec.ofInt 64 2047).toNat:Int)-1023))) then if WN x0.1 0 then sh (uE n (-1)) λx3=>AI x3 else sh (uE n 1) λx3=>AI x3 else if decide (i64.wrap (i64.wrap (a1+x0.2)+i64.wrap (i64.wrap (↑(BitVec.ofInt 64 (i64.wrap (Int.fdiv x1 (2^52)))&&&BitVec.ofInt 64 2047).toNat:Int)-1023)) < -1022) then uq n (i64.wrap (i64.wrap (i64.wrap (a1+x0.2)+i64.wrap (i64.wrap (↑(BitVec.ofInt 64 (i64.wrap (Int.fdiv x1 (2^52)))&&&BitVec.ofInt 64 2047).toNat:Int)-1023))+53)) x1 4368491638549381120 else uq n (i64.wrap (i64.wrap (a1+x0.2)+i64.wrap (i64.wrap (↑(BitVec.ofInt 64 (i64.wrap (Int.fdiv x1 (2^52)))&&&BitVec.ofInt 64 2047).toNat:Int)-1023))) x1 4607182418800017408
def H6 (n a0:Nat)(a1:Int):M (Nat):=if zH a0 0 then AI a0 else sh (nu n a0 0) λx0=>if x0 then AI a0 else sh (HV n a0) λx1=>if x1 then AI a0 else Cn n a0 a1
abbrev YF (n:Nat):dZ:=eN 131 [.one (.f64),aw] [.one (.f64)] (H6 n)
abbrev acL (n:Nat):List (iV (Nat)):=[jN [0,1,1] [.code [1,1,1]] [(0,.one (.f64)),(1,aw)] (Cn n), jN (bL 3071) [.code (bL 4095)] [(1,aw),(6,.one (.int .u64)),(7,.one (.f64))] (uq n)]
def Js (n:Nat):aH TZp (YF n):=bg Tryz.f131 (js:=acL n) (hT:=.m3 (K6 n) (.cc (.cc .nil)))
def cS (n a0:Nat)(a1:ζ):M ζ:=if !zH a0 a0 then AI (ofBytes [110,97,110]) else sh (nu n a0 0) λx0=>if x0 then sh (kK a1 (ofBytes [105,110,102])) λx1=>AI x1 else if zH a0 0 then sh (kK a1 (ofBytes [48,112,48])) λx1=>AI x1 else sh (nA n a0) λx1=>sh (qT n x1.1 10) λx2=>sh (kK a1 x2) λx3=>sh (kK x3 (ofBytes [112])) λx4=>sh (strconv_Itoa n x1.2) λx5=>sh (kK x4 x5) λx6=>AI x6
def gO (n a0:Nat):M ζ:=sh (lj n a0) λx0=>if x0 then cS n a0 (ofBytes [45]) else cS n a0 (ofBytes [])
abbrev YG (n:Nat):dZ:=eN 103 [.one (.f64)] [pX] (gO n)
abbrev acM (n:Nat):List (iV ζ):=[jN (bL 71) [.code (bL 103),.ar 0,.code [1,1,1,1]] [(0,.one (.f64)),(3,pX)] (cS n)]
def H7 (n:Nat):aH TZp (YG n):=bg Tryz.f103 (js:=acM n) (hT:=.m3 (K6 n) (.cc .nil))
def fh:uC (Addr->(Int×Int×Int×Int×Int)->Int->M (Unit⊕Bool)):=λG n a0 a1 a2=>if decide (a2<5) then sh (KG li 5 [vi a1.1,vi a1.2.1,vi a1.2.2.1,vi a1.2.2.2.1,vi a1.2.2.2.2] a2) λx0=>sh (pB (decide (0<=i64.wrap (a2+3)/\i64.wrap (a2+3)<(↑8:Int)))) λx1=>sh (e9 li ((a0.plus 1).plus ((i64.wrap (a2+3)).toNat*1))) λ(x2:Int)=>if decide (x0<x2) then AI (Sum.inr false) else G a0 (a1.1,a1.2.1,a1.2.2.1,a1.2.2.2.1,a1.2.2.2.2) (i64.wrap (a2+1)) else AI (Sum.inl ())
def fZ:=lp fh
def gf (n:Nat)(a0:Addr):M Bool:=nW Uk [vi 0,vi 0,vi 0,vi 0,vi 0] λx0=>sN (ak x0) [vi 23,vi 59,vi 59,vi 23,vi 59] λx1=>sh (bY [li,li,li,li,li] (ak x0)) λ(x2:Int×Int×Int×Int×Int)=>sh (fZ n a0 (x2.1,x2.2.1,x2.2.2.1,x2.2.2.2.1,x2.2.2.2.2) 0) (dX (λx3=>AI true) (λx3=>AI x3))
def iP (n:Nat)(a0:J11):M Bool:=nW bP [vi a0.1,vi a0.2.1,vi a0.2.2.1,vi a0.2.2.2.1,vi a0.2.2.2.2.1,vi a0.2.2.2.2.2.1,vi a0.2.2.2.2.2.2.1,vi a0.2.2.2.2.2.2.2.1,vi a0.2.2.2.2.2.2.2.2.1,vi a0.2.2.2.2.2.2.2.2.2.1,.int IntKind.u8 a0.2.2.2.2.2.2.2.2.2.2] λx0=>lI (ak x0) 0 λx1=>if !decide (x1=2) then sh (pB (decide (0<=0/\0<(↑8:Int)))) λx2=>sh (e9 li (((ak x0).plus 1).plus 0)) λ(x3:Int)=>sh (pB (decide (0<=1/\1<(↑8:Int)))) λx4=>sh (e9 li (((ak x0).plus 1).plus 1)) λ(x5:Int)=>sh (pB (decide (0<=2/\2<(↑8:Int)))) λx6=>sh (e9 li (((ak x0).plus 1).plus 2)) λ(x7:Int)=>sh (za n x3 x5 x7) λx8=>if !decide (x8.2=0) then AI false else gf n (ak x0) else gf n (ak x0)
abbrev afo (n:Nat):dZ:=eN 73 [.agg [.int .i64,.int .i64,.int .i64,.int .i64,.int .i64,.int .i64,.int .i64,.int .i64,.int .i64,.int .i64,.int .u8]] [jF] (iP n)
abbrev ahI:=L2 (bL 87) [(1,aG),(27,.agg [.int .i64,.int .i64,.int .i64,.int .i64,.int .i64]),(28,aw)] [] [(2,jF)] ([2,6,7]++rG 28 12) 0 .ret fZ
abbrev ahJ (n:Nat):List (iV Bool):=[jN [0,1,1] [.code [1,1,1]] [(1,aG)] (gf n)]
def U4 (n:Nat):=ahI.k TZp Tryz.f73 n (hT:=λm _=>.m1 (K6 m))
def xJ (n:Nat):aH TZp (afo n):=bg Tryz.f73 (js:=ahJ n) (hT:=⟨.nil,K6 n,.nil,(.cc (U4 n) .nil),(.cc .nil)⟩)
def jb (n:Nat)(a0 a1 a2:Int):M (ζ×Int):=sh (CX n a1) λx0=>if !decide (x0.2.2.2=0) then AI ((ofBytes []),13) else sh (pB (decide (3600≠0))) λx1=>sh (pB (decide (60≠0))) λx2=>sh (pB (decide (60≠0))) λx3=>sh (pB (decide (60≠0))) λx4=>nW bP [vi 0,vi 0,vi 0,vi 0,vi 0,vi 0,vi 0,vi 0,vi 0,vi 0,.int IntKind.u8 0] λx5=>sN (ak x5) [vi 3,vi x0.1,vi x0.2.1,vi x0.2.2.1,vi (i64.wrap (a2.tdiv 3600)),vi ((i64.wrap (a2.tdiv 60)).tmod 60),vi (a2.tmod 60),vi 0,vi 0,vi a0,.int IntKind.u8 0] λx6=>sh (bY [li,li,li,li,li,li,li,li,li,li,.int IntKind.u8] (ak x5)) λ(x7:J11)=>sh (jK n (x7.1,x7.2.1,x7.2.2.1,x7.2.2.2.1,x7.2.2.2.2.1,x7.2.2.2.2.2.1,x7.2.2.2.2.2.2.1,x7.2.2.2.2.2.2.2.1,x7.2.2.2.2.2.2.2.2.1,x7.2.2.2.2.2.2.2.2.2.1,x7.2.2.2.2.2.2.2.2.2.2)) λx8=>sh (kK x8 (ofBytes [90])) λx9=>AI (x9,0)
def pf (n:Nat)(a0 a1:Int):M (ζ×Int):=sh (pB (decide (86400≠0))) λx0=>sh (pB (decide (86400≠0))) λx1=>if decide (a0.tmod 86400<0) then jb n a1 (i64.wrap (i64.wrap (a0.tdiv 86400)-1)) (i64.wrap (a0.tmod 86400+86400)) else jb n a1 (i64.wrap (a0.tdiv 86400)) (a0.tmod 86400)
def oL (n:Nat)(a0 a1:Int):M (ζ×Int):=if decide (a1<0) then AI ((ofBytes []),2) else if decide (999999999<a1) then AI ((ofBytes []),2) else if decide (a0 < -62167219200) then AI ((ofBytes []),13) else if decide (253402300800<=a0) then AI ((ofBytes []),13) else pf n a0 a1
abbrev afp (n:Nat):dZ:=eN 74 [aw,aw] [pX,aw] (oL n)
abbrev ahK (n:Nat):List (iV (ζ×Int)):=[jN [0,1,1,1] [.code [1,1,1,1]] [(0,aw),(1,aw)] (pf n), jN (bL 95) [.code (bL 127)] [(1,aw),(6,aw),(7,aw)] (jb n)]
def A1 (n:Nat):aH TZp (afp n):=bg Tryz.f74 (js:=ahK n) (hT:=.m3 (K6 n) (.cc (.cc .nil)))
def jQ (n:Nat)(a0:J11):M Int:=nW bP [vi a0.1,vi a0.2.1,vi a0.2.2.1,vi a0.2.2.2.1,vi a0.2.2.2.2.1,vi a0.2.2.2.2.2.1,vi a0.2.2.2.2.2.2.1,vi a0.2.2.2.2.2.2.2.1,vi a0.2.2.2.2.2.2.2.2.1,vi a0.2.2.2.2.2.2.2.2.2.1,.int IntKind.u8 a0.2.2.2.2.2.2.2.2.2.2] λx0=>sh (pB (decide (0<=0/\0<(↑8:Int)))) λx1=>sh (e9 li (((ak x0).plus 1).plus 0)) λ(x2:Int)=>sh (pB (decide (0<=1/\1<(↑8:Int)))) λx3=>sh (e9 li (((ak x0).plus 1).plus 1)) λ(x4:Int)=>sh (pB (decide (0<=2/\2<(↑8:Int)))) λx5=>sh (e9 li (((ak x0).plus 1).plus 2)) λ(x6:Int)=>sh (za n x2 x4 x6) λx7=>sh (pB (decide (0<=3/\3<(↑8:Int)))) λx8=>sh (e9 li (((ak x0).plus 1).plus 3)) λ(x9:Int)=>sh (pB (decide (0<=4/\4<(↑8:Int)))) λx10=>sh (e9 li (((ak x0).plus 1).plus 4)) λ(x11:Int)=>sh (pB (decide (0<=5/\5<(↑8:Int)))) λx12=>sh (e9 li (((ak x0).plus 1).plus 5)) λ(x13:Int)=>sh (pB (decide (0<=6/\6<(↑8:Int)))) λj5=>sh (e9 li (((ak x0).plus 1).plus 6)) λ(x15:Int)=>sh (pB (decide (0<=7/\7<(↑8:Int)))) λrA=>sh (e9 li (((ak x0).plus 1).plus 7)) λ(x17:Int)=>sh (e9 (.int IntKind.u8) ((ak x0).plus 10)) λ(w4:Int)=>if decide (w4=43) then AI (i64.wrap (i64.wrap (i64.wrap (i64.wrap (i64.wrap (x7.1*86400)+i64.wrap (x9*3600))+i64.wrap (x11*60))+x13)-i64.wrap (i64.wrap (x15*3600)+i64.wrap (x17*60)))) else AI (i64.wrap (i64.wrap (i64.wrap (i64.wrap (i64.wrap (x7.1*86400)+i64.wrap (x9*3600))+i64.wrap (x11*60))+x13)+i64.wrap (i64.wrap (x15*3600)+i64.wrap (x17*60))))
abbrev afq (n:Nat):dZ:=eN 75 [.agg [.int .i64,.int .i64,.int .i64,.int .i64,.int .i64,.int .i64,.int .i64,.int .i64,.int .i64,.int .i64,.int .u8]] [aw] (jQ n)
def wX (n:Nat):aH TZp (afq n):=bg Tryz.f75 (hT:=.m1 (K6 n))
abbrev jL:=Sl->Int->Int->Addr->Int->Int->M Unit
def bV (G:jL)(n:Nat)(a0:Sl)(a1 a2:Int)(a3:Addr)(a4 a5 a6:Int):M Unit:=iX a0 (i64.wrap (a1+a6)) 1 λx0=>iX a0 a5 1 λx1=>eI x0 λx2=>eI x1 λx3=>iX a0 a5 1 λx4=>sN x4 [vi x2] λx5=>iX a0 (i64.wrap (a1+a6)) 1 λx6=>sN x6 [vi x3] λx7=>G a0 a1 a2 a3 a4 (i64.wrap (a5+1))
def cC:uC (jL):=λG n a0 a1 a2 a3 a4 a5=>sh (pB (decide (4≠0))) λx0=>if decide (a5<=i64.wrap (i64.wrap (a1+i64.wrap (i64.wrap (a2.tdiv 4)*2))+1)) then sh (lh n (some a3)) λx1=>if decide (a2<=i64.wrap (IntKind.u64.wrap (↑(BitVec.ofInt 64 x1&&&BitVec.ofInt 64 (IntKind.u64.wrap (a4-1))).toNat:Int))) then bV G n a0 a1 a2 a3 a4 a5 (i64.wrap (i64.wrap (IntKind.u64.wrap (↑(BitVec.ofInt 64 x1&&&BitVec.ofInt 64 (IntKind.u64.wrap (a4-1))).toNat:Int))-a2)) else bV G n a0 a1 a2 a3 a4 a5 (i64.wrap (IntKind.u64.wrap (↑(BitVec.ofInt 64 x1&&&BitVec.ofInt 64 (IntKind.u64.wrap (a4-1))).toNat:Int))) else AI ()
def bh:=lp cC
def pQ (n:Nat):=bV (bh n) n
def ff (n:Nat)(a0:Sl)(a1 a2:Int)(a3:ο):M Unit:=if decide (8<=i64.wrap (a2-a1)) then nW xc [.int IntKind.u64 0] λx0=>sN (ak x0) [.int IntKind.u64 (IntKind.u64.wrap (i64.wrap (a2-a1)))] λx1=>sh (oB n (i64.wrap (a2-a1))) λx2=>sh (pB (decide (4≠0))) λx3=>sh (bh n a0 a1 (i64.wrap (a2-a1)) (ak x0) x2 (i64.wrap (i64.wrap (a1+i64.wrap (i64.wrap ((i64.wrap (a2-a1)).tdiv 4)*2))-1))) λx4=>AI () else AI ()
abbrev afr (n:Nat):dZ:=eN 79 [cB,aw,aw,tG] [] (ff n)
abbrev ahL:=L1 (bL 187) [(0,cB),(1,aw),(8,aw),(9,aG),(10,.one (.int .u64)),(11,aw)] [] ([11,12]++rG 28 39) 0 bh
def YH:=dR [(10,rG 0 11++[12,13,14,11]++rG 15 5)]
abbrev U5 (n:Nat):List (iV Unit):=[jN (bL 14651) [.ar 1,.code (bL 1851)] [(0,cB),(1,aw),(8,aw),(9,aG),(10,.one (.int .u64)),(11,aw),(12,aw)] (pQ n)]
def U6 (n:Nat):=ahL.k TZp Tryz.f79 n (dr:=YH) (jt:=U5) (hT:=λm _=>.m3 (K6 m) (.cc .nil))
def qV (n:Nat):aH TZp (afr n):=bg Tryz.f79 (dr:=YH) (hT:=.m2 (K6 n) (.cc (U6 n) .nil))
def sA:uC (ζ->Addr->Int->Int->M Unit):=λG n a0 a1 a2 a3=>if decide (a3<a2) then sh (kF a0 a3) λx0=>if decide ((↑x0.toNat:Int)=34) then sh (aD n (some a1) 92) λx1=>sh (kF a0 a3) λx2=>sh (aD n (some a1) (↑x2.toNat:Int)) λx3=>G a0 a1 a2 (i64.wrap (a3+1)) else sh (kF a0 a3) λx1=>if decide ((↑x1.toNat:Int)=92) then sh (aD n (some a1) 92) λx2=>sh (kF a0 a3) λx3=>sh (aD n (some a1) (↑x3.toNat:Int)) λx4=>G a0 a1 a2 (i64.wrap (a3+1)) else sh (kF a0 a3) λx2=>sh (aD n (some a1) (↑x2.toNat:Int)) λx3=>G a0 a1 a2 (i64.wrap (a3+1)) else AI ()
def kV:=lp sA
theorem A3 (n:Nat):kV (n+1)=sA (kV n) n:=rfl
def vE (n:Nat)(a0:ζ):M ζ:=nW fR [.pointer none,aI] λx0=>sh (aD n (some (ak x0)) 34) λx1=>sh (kV n a0 (ak x0) (↑a0.size:Int) 0) λx2=>sh (aD n (some (ak x0)) 34) λx3=>sh (ie n (some (ak x0))) λx4=>AI x4
abbrev afs (n:Nat):dZ:=eN 54 [pX] [pX] (vE n)
abbrev ahM:=L1 (bL 87) [(0,pX),(3,aG),(7,aw),(8,aw)] [] ([4]++rG 8 19) 0 kV
def U7 (n:Nat):=ahM.k TZp Tryz.f54 n (hT:=λm _=>.m1 (K6 m))
def Gq (n:Nat):aH TZp (afs n):=bg Tryz.f54 (hT:=.m2 (K6 n) (.cc (U7 n) .nil))
abbrev C7 (n:Nat):List dZ:=afn n::YF n::YG n::afo n::afp n::afq n::afr n::afs n::C6 n
def K7 (n:Nat):eY TZp (C7 n):=.cons (Gp n) (.cons (Js n) (.cons (H7 n) (.cons (xJ n) (.cons (A1 n) (.cons (wX n) (.cons (qV n) (.cons (Gq n) (K6 n))))))))
def ur (n:Nat)(a0:ζ):M Bool:=sh (pP n a0) λx0=>nW bz [.bool false,aI,vi 0] λx1=>sN (ak x1) [.bool x0.1.1,aC x0.1.2.1,vi x0.1.2.2] λx2=>AI x0.2
abbrev aft (n:Nat):dZ:=eN 57 [pX] [jF] (ur n)
def Fc (n:Nat):aH TZp (aft n):=bg Tryz.f57 (hT:=.m1 (K7 n))
def Dc (n a0:Nat)(a1:Int):M (Nat):=sh (H6 n a0 a1) λx0=>AI x0
abbrev YI (n:Nat):dZ:=eN 102 [.one (.f64),aw] [.one (.f64)] (Dc n)
def Jt (n:Nat):aH TZp (YI n):=bg Tryz.f102 (hT:=.m1 (K7 n))
def nC (n:Nat)(a0:Addr):M (ζ×Int):=sh (bY [li,li,li,li,li,li,li,li,li,li,.int IntKind.u8] a0) λ(x0:J11)=>sh (iP n (x0.1,x0.2.1,x0.2.2.1,x0.2.2.2.1,x0.2.2.2.2.1,x0.2.2.2.2.2.1,x0.2.2.2.2.2.2.1,x0.2.2.2.2.2.2.2.1,x0.2.2.2.2.2.2.2.2.1,x0.2.2.2.2.2.2.2.2.2.1,x0.2.2.2.2.2.2.2.2.2.2)) λx1=>if !x1 then AI ((ofBytes []),13) else sh (bY [li,li,li,li,li,li,li,li,li,li,.int IntKind.u8] a0) λ(x2:J11)=>lI a0 9 λx3=>sh (uw [some (a0.plus 9)] (jQ n (x2.1,x2.2.1,x2.2.2.1,x2.2.2.2.1,x2.2.2.2.2.1,x2.2.2.2.2.2.1,x2.2.2.2.2.2.2.1,x2.2.2.2.2.2.2.2.1,x2.2.2.2.2.2.2.2.2.1,x2.2.2.2.2.2.2.2.2.2.1,x2.2.2.2.2.2.2.2.2.2.2))) λx4=>sh (oL n x4 x3) λx5=>AI (x5.1,x5.2)
def n7 (n:Nat)(a0:ζ):M (ζ×Int):=sh (nB n a0) λx0=>nW bP [vi 0,vi 0,vi 0,vi 0,vi 0,vi 0,vi 0,vi 0,vi 0,vi 0,.int IntKind.u8 0] λx1=>sN (ak x1) [vi x0.1.1,vi x0.1.2.1,vi x0.1.2.2.1,vi x0.1.2.2.2.1,vi x0.1.2.2.2.2.1,vi x0.1.2.2.2.2.2.1,vi x0.1.2.2.2.2.2.2.1,vi x0.1.2.2.2.2.2.2.2.1,vi x0.1.2.2.2.2.2.2.2.2.1,vi x0.1.2.2.2.2.2.2.2.2.2.1,.int IntKind.u8 x0.1.2.2.2.2.2.2.2.2.2.2] λx2=>if !x0.2 then AI ((ofBytes []),3) else sh (e9 (.int IntKind.u8) ((ak x1).plus 10)) λ(x3:Int)=>if decide (x3=0) then AI ((ofBytes []),3) else nC n (ak x1)
abbrev afu (n:Nat):dZ:=eN 60 [pX] [pX,aw] (n7 n)
def ahN:=dR [(6,[2,0,3,4001]++rG 4 5)]
abbrev ahO (n:Nat):List (iV (ζ×Int)):=[jN [0,0,1,1,1] [.code [1,0,1,1,1],.code [1,1,1,1]] [(4,aG)] (nC n)]
def Dd (n:Nat):aH TZp (afu n):=bg Tryz.f60 (dr:=ahN) (js:=ahO n) (hT:=.m3 (K7 n) (.cc .nil))
def uu (n:Nat)(a0:ζ):M (ζ×Int):=sh (nB n a0) λx0=>nW bP [vi 0,vi 0,vi 0,vi 0,vi 0,vi 0,vi 0,vi 0,vi 0,vi 0,.int IntKind.u8 0] λx1=>sN (ak x1) [vi x0.1.1,vi x0.1.2.1,vi x0.1.2.2.1,vi x0.1.2.2.2.1,vi x0.1.2.2.2.2.1,vi x0.1.2.2.2.2.2.1,vi x0.1.2.2.2.2.2.2.1,vi x0.1.2.2.2.2.2.2.2.1,vi x0.1.2.2.2.2.2.2.2.2.1,vi x0.1.2.2.2.2.2.2.2.2.2.1,.int IntKind.u8 x0.1.2.2.2.2.2.2.2.2.2.2] λx2=>if !x0.2 then AI ((ofBytes []),3) else sh (e9 (.int IntKind.u8) ((ak x1).plus 10)) λ(x3:Int)=>if !decide (x3=0) then AI ((ofBytes []),3) else sh (bY [li,li,li,li,li,li,li,li,li,li,.int IntKind.u8] (ak x1)) λ(x4:J11)=>sh (iP n (x4.1,x4.2.1,x4.2.2.1,x4.2.2.2.1,x4.2.2.2.2.1,x4.2.2.2.2.2.1,x4.2.2.2.2.2.2.1,x4.2.2.2.2.2.2.2.1,x4.2.2.2.2.2.2.2.2.1,x4.2.2.2.2.2.2.2.2.2.1,x4.2.2.2.2.2.2.2.2.2.2)) λx5=>if !x5 then AI ((ofBytes []),13) else sh (bY [li,li,li,li,li,li,li,li,li,li,.int IntKind.u8] (ak x1)) λ(x6:J11)=>sh (jK n (x6.1,x6.2.1,x6.2.2.1,x6.2.2.2.1,x6.2.2.2.2.1,x6.2.2.2.2.2.1,x6.2.2.2.2.2.2.1,x6.2.2.2.2.2.2.2.1,x6.2.2.2.2.2.2.2.2.1,x6.2.2.2.2.2.2.2.2.2.1,x6.2.2.2.2.2.2.2.2.2.2)) λx7=>AI (x7,0)
abbrev afv (n:Nat):dZ:=eN 76 [pX] [pX,aw] (uu n)
def Fe (n:Nat):aH TZp (afv n):=bg Tryz.f76 (hT:=.m1 (K7 n))
def xj (n:Nat)(a0 a1:ζ):M Int:=sh (pP n a0) λx0=>nW bz [.bool false,aI,vi 0] λx1=>sN (ak x1) [.bool x0.1.1,aC x0.1.2.1,vi x0.1.2.2] λx2=>sh (pP n a1) λx3=>nW bz [.bool false,aI,vi 0] λx4=>sN (ak x4) [.bool x3.1.1,aC x3.1.2.1,vi x3.1.2.2] λx5=>if !x0.2 then AI 0 else if !x3.2 then AI 0 else sh (bY [.bool,.sl,li] (ak x1)) λ(x6:Bool×Sl×Int)=>sh (bY [.bool,.sl,li] (ak x4)) λ(x7:Bool×Sl×Int)=>sh (qJ n (x6.1,x6.2.1,x6.2.2) (x7.1,x7.2.1,x7.2.2)) λx8=>AI x8
abbrev YJ (n:Nat):dZ:=eN 117 [pX,pX] [aw] (xj n)
def H8 (n:Nat):aH TZp (YJ n):=bg Tryz.f117 (hT:=.m1 (K7 n))
def u7:uC (θ->Sl->Int->Int->M Sl):=λG n a0 a1 a2 a3=>if decide (a3<a2) then sh (nn a0) λx0=>sh (nn a0) λx1=>lT x0 1 λx2=>sh (kF x2 a3) λx3=>sh (pB (decide (0<=4))) λx4=>sh (kF (ofBytes [48,49,50,51,52,53,54,55,56,57,97,98,99,100,101,102]) ((↑x3.toNat:Int).fdiv (2^4))) λx5=>lT x1 1 λx6=>sh (kF x6 a3) λx7=>sh (kF (ofBytes [48,49,50,51,52,53,54,55,56,57,97,98,99,100,101,102]) (IntKind.u8.wrap (↑(BitVec.ofInt 8 (↑x7.toNat:Int)&&&BitVec.ofInt 8 15).toNat:Int))) λx8=>sh (app true a1 1 gU 2 [.int IntKind.u8 (↑x5.toNat:Int),.int IntKind.u8 (↑x8.toNat:Int)]) λx9=>G a0 x9 a2 (i64.wrap (a3+1)) else AI a1
def qu:=lp u7
theorem De (n:Nat):qu (n+1)=u7 (qu n) n:=rfl
def wE (n:Nat)(a0:θ):M ζ:=sh (nn a0) λx0=>lI x0 0 λx1=>if decide (x1=0) then AI (ofBytes [110,117,108,108]) else if decide (x1=5) then sh (nn a0) λx2=>lT x2 1 λx3=>sh (vE n x3) λx4=>AI x4 else if decide (x1=6) then nW gU [.int IntKind.u8 35] λx2=>sh (nn a0) λx3=>lT x3 1 λx4=>sh (qu n a0 { a:=some (ak x2),len:=1,cap:=2 } (↑(ByteArray.size x4):Int) 0) λx5=>sh (strOf x5) λx6=>AI x6 else if decide (x1=7) then sh (nn a0) λx2=>lT x2 1 λx3=>sh (kK (ofBytes [64]) x3) λx4=>AI x4 else if decide (x1=8) then sh (nn a0) λx2=>lT x2 1 λx3=>sh (kK (ofBytes [37]) x3) λx4=>AI x4 else sh (nn a0) λx2=>lT x2 1 λx3=>AI x3
abbrev afw (n:Nat):dZ:=eN 41 [vS] [pX] (wE n)
abbrev ahP:=L1 (bL 22005) [(0,vS),(3,cB),(25,aw),(26,aw)] [(3,cB)] ([3,4]++rG 26 23) 1 qu
def YK:=dR [(11,[0,1,2,3,5,9,10,11,13,4,6,7,8,12]++rG 14 6)]
def U8 (n:Nat):=ahP.k TZp Tryz.f41 n (dr:=YK) (hT:=λm _=>.m1 (K7 m))
def Ju (n:Nat):aH TZp (afw n):=bg Tryz.f41 (dr:=YK) (hT:=.m2 (K7 n) (.cc (U8 n) .nil))
abbrev C8 (n:Nat):List dZ:=aft n::YI n::afu n::afv n::YJ n::afw n::C7 n
def K8 (n:Nat):eY TZp (C8 n):=.cons (Fc n) (.cons (Jt n) (.cons (Dd n) (.cons (Fe n) (.cons (H8 n) (.cons (Ju n) (K7 n))))))
def gq (n:Nat)(a0:ζ)(a1:Bool)(a2 a3:Int):M (Nat×Bool):=sh (Dc n (WO a2) a3) λx0=>sh (gO n x0) λx1=>if !mM x1 a0 then AI (0,false) else if a1 then sh (jT n x0 13830554455654793216) λx2=>AI (x2,true) else AI (x0,true)
def jR (n:Nat)(a0:ζ):M (Nat×Bool):=sh (strings_CutPrefix n a0 (ofBytes [45])) λx0=>if mM a0 (ofBytes [110,97,110]) then sh (HX n) λx1=>AI (x1,true) else if mM x0.1 (ofBytes [105,110,102]) then sh (uE n 1) λx1=>if x0.2 then sh (jT n x1 13830554455654793216) λx2=>AI (x2,true) else AI (x1,true) else if mM x0.1 (ofBytes [48,112,48]) then if x0.2 then sh (jT n 0 13830554455654793216) λx1=>AI (x1,true) else AI (0,true) else sh (strings_Cut n x0.1 (ofBytes [112])) λx1=>sh (fS n x1.1 10 64) λx2=>sh (strconv_Atoi n x1.2.1) λx3=>if !x1.2.2 then AI (0,false) else sh (kL x2.2) λx4=>if !x4 then AI (0,false) else sh (kL x3.2) λx5=>if !x5 then AI (0,false) else sh (oY n x2.1 x3.1) λx6=>if !x6 then AI (0,false) else gq n x0.1 x0.2 x2.1 x3.1
abbrev afx (n:Nat):dZ:=eN 70 [pX] [.one (.f64),jF] (jR n)
abbrev ahQ (n:Nat):List (iV (Nat×Bool)):=[jN (bL 98279) [.code (bL 131047),.ar 0,.code [1,1,1,1]] [(4,pX),(5,jF),(10,.one (.int .u64)),(12,aw)] (gq n)]
def Gr (n:Nat):aH TZp (afx n):=bg Tryz.f70 (js:=ahQ n) (hT:=.m3 (K8 n) (.cc .nil))
def qv (n:Nat)(a0:ζ):M Int:=sh (uu n a0) λx0=>if !decide (x0.2=0) then AI 0 else if !mM x0.1 a0 then AI 0 else sh (nB n a0) λx1=>nW bP [vi 0,vi 0,vi 0,vi 0,vi 0,vi 0,vi 0,vi 0,vi 0,vi 0,.int IntKind.u8 0] λx2=>sN (ak x2) [vi x1.1.1,vi x1.1.2.1,vi x1.1.2.2.1,vi x1.1.2.2.2.1,vi x1.1.2.2.2.2.1,vi x1.1.2.2.2.2.2.1,vi x1.1.2.2.2.2.2.2.1,vi x1.1.2.2.2.2.2.2.2.1,vi x1.1.2.2.2.2.2.2.2.2.1,vi x1.1.2.2.2.2.2.2.2.2.2.1,.int IntKind.u8 x1.1.2.2.2.2.2.2.2.2.2.2] λx3=>lI (ak x2) 0 λx4=>AI x4
abbrev afy (n:Nat):dZ:=eN 61 [pX] [aw] (qv n)
def Ff (n:Nat):aH TZp (afy n):=bg Tryz.f61 (hT:=.m1 (K8 n))
structure aR where
 eL:θ->Int->Sl->θ->Int->Sl->Int->Int->M Int
 fi:θ->Int->Sl->M Int
def mC (G:aR)(n:Nat)(a0:θ)(a1:Int)(a2:Sl)(a3:θ)(a4:Int)(a5:Sl)(a6 a7:Int):M Int:=if decide (a7<a6) then iX a5 a7 1 λx0=>eI x0 λx1=>sh (nn a3) λx2=>lI x2 0 λx3=>if decide (x3=10) then sh (nn a3) λx4=>lS x4 3 λx5=>iX x5 a7 1 λx6=>eI x6 λx7=>sh (G.fi a0 x7 a2) λx8=>sh (G.fi a0 x1 a2) λx9=>G.eL a0 a1 a2 a3 (i64.wrap (i64.wrap (a4+i64.wrap (1+x8))+x9)) a5 a6 (i64.wrap (a7+1)) else sh (G.fi a0 x1 a2) λx4=>G.eL a0 a1 a2 a3 (i64.wrap (a4+x4)) a5 a6 (i64.wrap (a7+1)) else AI a4
def dT (G:aR)(n:Nat)(a0:θ)(a1:Int)(a2:Sl)(a3:θ)(a4:Int):M Int:=sh (nn a3) λx0=>lS x0 4 λx1=>sh (G.eL a0 a1 a2 a3 a4 x1 (↑x1.len:Int) 0) λx2=>iX a2 a1 1 λx3=>sN x3 [vi (if 65537<x2 then 65537 else x2)] λx4=>iX a2 a1 1 λx5=>eI x5 λx6=>AI x6
def mD (G:aR)(n:Nat)(a0:θ)(a1:Int)(a2:Sl)(a3:θ)(a4:Int):M Int:=if decide (a4=11) then sh (nn a3) λx0=>lT x0 1 λx1=>dT G n a0 a1 a2 a3 (i64.wrap (3+(↑(ByteArray.size x1):Int))) else sh (wE n a3) λx0=>dT G n a0 a1 a2 a3 (↑(ByteArray.size x0):Int)
def pg (G:aR)(n:Nat)(a0:θ)(a1:Int)(a2:Sl):M Int:=iX a2 a1 1 λx0=>eI x0 λx1=>if decide (0<=x1) then iX a2 a1 1 λx2=>eI x2 λx3=>AI x3 else sh (nn a0) λx2=>lS (x2.plus 0) 0 λx3=>iX x3 a1 5 λx4=>sh (nn (some x4)) λx5=>lI x5 0 λx6=>if decide (x6=9) then sh (nn (some x4)) λx7=>lS x7 4 λx8=>dT G n a0 a1 a2 (some x4) (i64.wrap (2+if 0<i64.wrap ((↑x8.len:Int)-1) then i64.wrap ((↑x8.len:Int)-1) else 0)) else if decide (x6=10) then sh (nn (some x4)) λx7=>lS x7 4 λx8=>dT G n a0 a1 a2 (some x4) (i64.wrap (2+if 0<i64.wrap ((↑x8.len:Int)-1) then i64.wrap ((↑x8.len:Int)-1) else 0)) else mD G n a0 a1 a2 (some x4) x6
def aR.at:Nat->aR|0=>⟨λ_ _ _ _ _ _ _ _=>AS,λ_ _ _=>AS⟩|n+1=>⟨mC (aR.at n) n,pg (aR.at n) n⟩
def eL (n:Nat):=(aR.at n).eL
def fi (n:Nat):=(aR.at n).fi
def Ad (n:Nat):=mD (aR.at n) n
def Ae (n:Nat):=dT (aR.at n) n
abbrev YL (n:Nat):dZ:=eN 24 [vS,aw,cB] [aw] (fi n)
abbrev ahR:=L1 (bL 351) [(0,vS),(1,aw),(2,cB),(7,vS),(8,aw),(56,cB),(57,aw),(58,aw)] [(8,aw)] ([8,9,10]++rG 58 30) 1 eL
abbrev C9 (n:Nat):List dZ:=YL n::C8 n
abbrev ahS (n:Nat):List (iV Int):=[jN (bL 1455) [.code (bL 1967),.ar 0,.code [1,1,1,1,1]] [(0,vS),(1,aw),(2,cB),(7,vS),(30,aw)] (Ad n), jN (bL 159) [.code (bL 223),.code (bL 127)] [(0,vS),(1,aw),(2,cB),(7,vS),(8,aw)] (Ae n)]
def jc (n:Nat):Prop:=aH TZp (YL n)
def ahT (n:Nat)(H:jc n):eY TZp (C9 n):=.cons H (K8 n)
def U9 (n:Nat)(H:Hy jc n):=ahR.k TZp Tryz.f24 n (hT:=λm hm=>.m1 (ahT m ((H.d hm).s)))
def wF (n:Nat)(H:Hy jc n):aH TZp (YL (n+1)):=bg Tryz.f24 (js:=ahS n) (hT:=⟨.nil,ahT n (H.s),.nil,(.cc (U9 n H) .nil),(.cc (.cc .nil))⟩)
def xK (n:Nat):jc n:=NT (Q:=jc) (gR Tryz.f24) wF n
def K9 (n:Nat):eY TZp (C9 n):=ahT n (xK n)
abbrev C10 (n:Nat):List dZ:=afx n::afy n::C9 n
def K10 (n:Nat):eY TZp (C10 n):=.cons (Gr n) (.cons (Ff n) (K9 n))
def nD (n:Nat)(a0:ζ):M Bool:=sh (jR n a0) λx0=>AI x0.2
abbrev afz (n:Nat):dZ:=eN 58 [pX] [jF] (nD n)
def Gt (n:Nat):aH TZp (afz n):=bg Tryz.f58 (hT:=.m1 (K10 n))
def xL (n a0 a1:Nat):M (Int×Bool):=if WN a0 a1 then AI (-1,true) else if PB a0 a1 then AI (1,true) else AI (0,true)
def zh (n:Nat)(a0 a1:ζ):M (Int×Bool):=sh (jR n a0) λx0=>sh (jR n a1) λx1=>if !x0.2 then AI (0,false) else if !x1.2 then AI (0,false) else if !zH x0.1 x0.1 then AI (0,false) else if !zH x1.1 x1.1 then AI (0,false) else xL n x0.1 x1.1
abbrev YM (n:Nat):dZ:=eN 118 [pX,pX] [aw,jF] (zh n)
abbrev acN (n:Nat):List (iV (Int×Bool)):=[jN (bL 359) [.code (bL 487),.ar 0,.code [1,1,1,1]] [(6,.one (.f64)),(8,.one (.f64))] (xL n)]
def Jv (n:Nat):aH TZp (YM n):=bg Tryz.f118 (js:=acN n) (hT:=.m3 (K10 n) (.cc .nil))
abbrev C11 (n:Nat):List dZ:=afz n::YM n::C10 n
def K11 (n:Nat):eY TZp (C11 n):=.cons (Gt n) (.cons (Jv n) (K10 n))
def vF (n:Nat)(a0:Int)(a1:ζ):M Bool:=if decide (a0=0) then AI (mM a1 (ofBytes [])) else if decide (a0=1) then if mM a1 (ofBytes [116,114,117,101]) then AI true else AI (mM a1 (ofBytes [102,97,108,115,101])) else if decide (a0=2) then sh (qq n a1) λx0=>AI x0 else if decide (a0=3) then sh (ur n a1) λx0=>AI x0 else if decide (a0=4) then sh (nD n a1) λx0=>AI x0 else if decide (a0=5) then sh (qD n a1) λx0=>AI (decide (x0.2=0)) else if decide (a0=6) then AI true else if decide (a0=7) then sh (n7 n a1) λx0=>if decide (x0.2=0) then AI (mM x0.1 a1) else AI false else if decide (a0=8) then sh (qv n a1) λx0=>AI !decide (x0=0) else AI false
abbrev afA (n:Nat):dZ:=eN 47 [aw,pX] [jF] (vF n)
def Gu (n:Nat):aH TZp (afA n):=bg Tryz.f47 (hT:=.m1 (K11 n))
def vG (n:Nat)(a0:Int)(a1 a2:ζ):M Int:=if mM a1 a2 then AI 0 else if decide (a0=2) then sh (xi n a1 a2) λx0=>AI x0 else if decide (a0=3) then sh (xj n a1 a2) λx0=>AI x0 else if decide (a0=4) then if mM a1 (ofBytes [110,97,110]) then AI 1 else if mM a2 (ofBytes [110,97,110]) then AI (-1) else sh (zh n a1 a2) λx0=>if !decide (x0.1=0) then AI x0.1 else if mM a1 (ofBytes [45,48,112,48]) then AI (-1) else AI 1 else sh (strings_Compare n a1 a2) λx0=>AI x0
abbrev afB (n:Nat):dZ:=eN 87 [aw,pX,pX] [aw] (vG n)
def Gv (n:Nat):aH TZp (afB n):=bg Tryz.f87 (hT:=.m1 (K11 n))
abbrev C12 (n:Nat):List dZ:=afA n::afB n::C11 n
def K12 (n:Nat):eY TZp (C12 n):=.cons (Gu n) (.cons (Gv n) (K11 n))
def zi (n:Nat)(a0:Int×ζ×Bool×Sl×Sl):M Bool:=nW az [vi a0.1,.string a0.2.1,.bool a0.2.2.1,aC a0.2.2.2.1,aC a0.2.2.2.2] λx0=>lI (ak x0) 0 λx1=>if decide (x1=9) then lT (ak x0) 1 λx2=>if mM x2 (ofBytes []) then lB (ak x0) 2 λx3=>if !x3 then lS (ak x0) 3 λx4=>AI (decide ((↑x4.len:Int)=0)) else AI false else AI false else if decide (x1=10) then lT (ak x0) 1 λx2=>if mM x2 (ofBytes []) then lS (ak x0) 3 λx3=>lS (ak x0) 4 λx4=>AI (decide ((↑x3.len:Int)=(↑x4.len:Int))) else AI false else if decide (x1=11) then lT (ak x0) 1 λx2=>sh (yU n x2) λx3=>if x3 then lB (ak x0) 2 λx4=>if !x4 then lS (ak x0) 3 λx5=>if decide ((↑x5.len:Int)=0) then lS (ak x0) 4 λx6=>AI (decide ((↑x6.len:Int)=1)) else AI false else AI false else AI false else lB (ak x0) 2 λx2=>if !x2 then lS (ak x0) 3 λx3=>if decide ((↑x3.len:Int)=0) then lS (ak x0) 4 λx4=>if decide ((↑x4.len:Int)=0) then lI (ak x0) 0 λx5=>lT (ak x0) 1 λx6=>sh (vF n x5 x6) λx7=>AI x7 else AI false else AI false else AI false
abbrev afC (n:Nat):dZ:=eN 30 [.agg [.int .i64,.str,.bool,.sl,.sl]] [jF] (zi n)
def Jw (n:Nat):aH TZp (afC n):=bg Tryz.f30 (hT:=.m1 (K12 n))
structure aa where
 fG:Int->Addr->Addr->Sl->Int->Int->M Unit
 eG:θ->Int->M Sl
 dV:Sl->ο->M Unit
 kE:Int->Int->Addr->Addr->M Int
 lR:θ->Int->θ->Int->ν->M Int
 bE:Sl->Int->Int->Int->ο->Bool->Bool->M Unit
 dh:Sl->Int->Int->Int->ο->M Unit
 jD:θ->θ->ν->θ->θ->Sl->Sl->Int->Int->M (Unit⊕Int)
 sC:θ->Int->θ->Int->ν->M Int
 bS:Sl->Int->Int->ο->Int->Int->M Unit
 bU:Sl->Int->Int->ο->Int->M Unit
 dO:Sl->Int->Int->ο->M Unit
 cV:Sl->ο->Int->Int->Int->Int->M Unit
 cW:Sl->ο->Int->Int->Int->M Unit
 fj:Sl->Int->Int->ο->M Unit
 ef:Sl->Int->Int->ο->M (Int×Int)
 bF:Sl->Int->Int->ο->Int->Int->Int->M Unit
 bG:Sl->Int->Int->ο->Int->Int->Int->M Unit
 aT:Sl->Int->Int->ο->Int->Int->M Int
 aU:Sl->Int->Int->ο->Int->Int->M (Unit⊕Bool)
 b7:Sl->Int->Int->ο->M Bool
 bH:Sl->Int->ο->Int->Int->M Int
 bI:Sl->Int->ο->Int->Int->M Int
 bJ:Sl->Int->ο->Int->Int->M Int
 dA:Sl->Int->Int->Int->ο->M Int
 cJ:Sl->Int->ο->Int->Int->M Int
 cK:Sl->Int->ο->Int->Int->M Int
 cM:Sl->Int->ο->Int->Int->M Int
 cN:Sl->Int->ο->Int->Int->M Int
 cO:Sl->Int->ο->Int->Int->M Int
 eU:Sl->Int->Int->Int->ο->M (Int×Bool)
 cX:Sl->Int->Int->ο->Int->M (Unit⊕Unit)
 dW:Sl->Int->Int->Int->ο->M Unit
 cq:Sl->Int->θ->ο->M Int
 dG:Sl->Int->Int->Int->θ->ο->M Int
 dH:Sl->Int->Int->θ->ο->M (Int×Int)
def av (G:aa)(n:Nat)(x:ο)(a0 a1:Int):M Int:=if rC jm x then sh (qj [aG,aG] x) λ(c:Addr×Addr)=>G.kE a0 a1 c.1 c.2 else AS
abbrev jo:=av
abbrev gP:=av
abbrev gQ:=av
abbrev gu:=av
abbrev jd:=av
abbrev je:=av
abbrev kH:=av
abbrev kI:=av
abbrev ke:=av
abbrev kh:=av
abbrev lA:=av
abbrev lC:=av
abbrev mE:=av
def lP (G:aa)(n:Nat)(a0:Int)(a1 a2:Addr)(a3:Sl)(a4 a5:Int):M Unit:=if decide (a5<a4) then iX a3 a5 1 λx0=>sN x0 [vi a5] λx1=>G.fG a0 a1 a2 a3 a4 (i64.wrap (a5+1)) else AI ()
def lQ (G:aa)(n:Nat)(a0:Int)(a1 a2:Addr)(a3:Sl):M Sl:=sh (G.dV a3 (Value.func (Fn.func jm) #[] #[.pointer (some a1),.pointer (some a2)])) λx0=>sh (e9 .ptr a1) λ(x1:θ)=>sh (nn x1) λx2=>lS x2 2 λx3=>iX x3 a0 1 λx4=>sN x4 [aC a3] λx5=>AI a3
def oC (G:aa)(n:Nat)(a0:θ)(a1:Int):M Sl:=nW bB [.pointer a0] λx0=>sh (e9 .ptr (ak x0)) λ(x1:θ)=>sh (nn x1) λx2=>lS (x2.plus 0) 0 λx3=>iX x3 a1 5 λx4=>nW fC [.pointer none] λx5=>sN (ak x5) [.pointer (some x4)] λx6=>sh (e9 .ptr (ak x0)) λ(x7:θ)=>sh (nn x7) λx8=>lS x8 2 λx9=>iX x9 a1 1 λx10=>eS x10 λx11=>if !x11.a.isNone then sh (e9 .ptr (ak x0)) λ(x12:θ)=>sh (nn x12) λx13=>lS x13 2 λj5=>iX j5 a1 1 λx15=>eS x15 λrA=>AI rA else sh (e9 .ptr (ak x5)) λ(x12:θ)=>sh (nn x12) λx13=>lS x13 4 λj5=>sh (An none au [vi 0] (↑j5.len:Int) (↑j5.len:Int)) λx15=>sh (G.fG a1 (ak x0) (ak x5) x15 (↑x15.len:Int) 0) λrA=>sh (e9 .ptr (ak x5)) λ(x17:θ)=>sh (nn x17) λw4=>lI w4 0 λx19=>if decide (x19=10) then sh (e9 .ptr (ak x5)) λ(x20:θ)=>sh (nn x20) λx21=>lB x21 2 λx22=>if !x22 then lQ G n a1 (ak x0) (ak x5) x15 else sh (e9 .ptr (ak x0)) λ(x23:θ)=>sh (nn x23) λx24=>lS x24 2 λx25=>iX x25 a1 1 λx26=>sN x26 [aC x15] λx27=>AI x15 else sh (e9 .ptr (ak x0)) λ(x20:θ)=>sh (nn x20) λx21=>lS x21 2 λx22=>iX x22 a1 1 λx23=>sN x23 [aC x15] λx24=>AI x15
def kO (G:aa)(n:Nat)(a0:Sl)(a1:ο):M Unit:=sh (qp n (IntKind.u64.wrap (↑a0.len:Int))) λx0=>sh (G.dh a0 0 (↑a0.len:Int) x0 a1) λx1=>AI ()
def mF (G:aa)(n:Nat)(a0 a1:Int)(a2 a3:Addr):M Int:=sh (e9 .ptr a2) λ(x0:θ)=>sh (e9 .ptr a3) λ(x1:θ)=>sh (nn x1) λx2=>lS x2 3 λx3=>iX x3 a0 1 λx4=>eI x4 λx5=>sh (e9 .ptr a2) λ(x6:θ)=>sh (e9 .ptr a3) λ(x7:θ)=>sh (nn x7) λx8=>lS x8 3 λx9=>iX x9 a1 1 λx10=>eI x10 λx11=>sh (G.lR x0 x5 x6 x11 none) λx12=>AI x12
def u9 (G:aa)(n:Nat)(a0:θ)(a1:Int)(a2:θ)(a3:Int)(a4:ν):M Int:=sh (zF JZ (Ty.one li) 0 a4 (Value.agg #[vi a1,vi a3])) λ(x0:Bool×Int)=>if x0.1 then AI x0.2 else sh (G.sC a0 a1 a2 a3 a4) λx1=>if !a4.isNone then sh (FG JZ a4 (Value.agg #[vi a1,vi a3]) (vi x1)) λx2=>AI x1 else AI x1
def cZ (G:aa)(n:Nat)(a0:Sl)(a1 a2 a3:Int)(a4:ο)(a5 a6:Bool)(a7 a8:Int):M Unit:=sh (G.eU a0 a1 a2 a8 a4) λx0=>sh (pB (decide (8≠0))) λx1=>if decide (i64.wrap (x0.1-a1)<i64.wrap (a2-x0.1)) then sh (G.dh a0 a1 x0.1 a3 a4) λx2=>G.bE a0 (i64.wrap (x0.1+1)) a2 a3 a4 (decide (i64.wrap (a7.tdiv 8)<=i64.wrap (x0.1-a1))) x0.2 else sh (G.dh a0 (i64.wrap (x0.1+1)) a2 a3 a4) λx2=>G.bE a0 a1 x0.1 a3 a4 (decide (i64.wrap (a7.tdiv 8)<=i64.wrap (a2-x0.1))) x0.2
def bt (G:aa)(n:Nat)(a0:Sl)(a1 a2 a3:Int)(a4:ο)(a5 a6:Bool)(a7 a8:Int):M Unit:=if decide (0<a1) then iX a0 (i64.wrap (a1-1)) 1 λx0=>iX a0 a8 1 λx1=>eI x0 λx2=>eI x1 λx3=>sh (av G n a4 x2 x3) λx4=>if !decide (x4<0) then sh (G.dA a0 a1 a2 a8 a4) λx5=>G.bE a0 x5 a2 a3 a4 a5 a6 else cZ G n a0 a1 a2 a3 a4 a5 a6 a7 a8 else cZ G n a0 a1 a2 a3 a4 a5 a6 a7 a8
def da (G:aa)(n:Nat)(a0:Sl)(a1 a2 a3:Int)(a4:ο)(a5 a6:Bool)(a7 a8 a9:Int):M Unit:=if a5 then if a6 then if decide (a9=1) then sh (G.b7 a0 a1 a2 a4) λx0=>if x0 then AI () else bt G n a0 a1 a2 a3 a4 a5 a6 a7 a8 else bt G n a0 a1 a2 a3 a4 a5 a6 a7 a8 else bt G n a0 a1 a2 a3 a4 a5 a6 a7 a8 else bt G n a0 a1 a2 a3 a4 a5 a6 a7 a8
def db (G:aa)(n:Nat)(a0:Sl)(a1 a2 a3:Int)(a4:ο)(a5 a6:Bool)(a7:Int):M Unit:=sh (G.ef a0 a1 a2 a4) λx0=>if decide (x0.2=2) then sh (fF n a0 a1 a2 a4) λx1=>da G n a0 a1 a2 a3 a4 a5 a6 a7 (i64.wrap (i64.wrap (a2-1)-i64.wrap (x0.1-a1))) 1 else da G n a0 a1 a2 a3 a4 a5 a6 a7 x0.1 x0.2
def dU (G:aa)(n:Nat)(a0:Sl)(a1 a2 a3:Int)(a4:ο)(a5 a6:Bool):M Unit:=if decide (i64.wrap (a2-a1)<=12) then sh (G.dO a0 a1 a2 a4) λx0=>AI () else if decide (a3=0) then sh (G.fj a0 a1 a2 a4) λx0=>AI () else if !a5 then sh (ff n a0 a1 a2 a4) λx0=>db G n a0 a1 a2 (i64.wrap (a3-1)) a4 a5 a6 (i64.wrap (a2-a1)) else db G n a0 a1 a2 a3 a4 a5 a6 (i64.wrap (a2-a1))
def eQ (G:aa)(n:Nat)(a0:Sl)(a1 a2 a3:Int)(a4:ο):M Unit:=sh (G.bE a0 a1 a2 a3 a4 true true) λx0=>AI ()
def jf (G:aa)(n:Nat)(a0 a1:θ)(a2:ν)(a3 a4:θ)(a5 a6:Sl)(a7 a8 a9:Int):M (Unit⊕Int):=sh (nn a3) λx0=>iX a5 a7 1 λx1=>sh (nn a4) λx2=>iX a6 a7 1 λx3=>lS x0 4 λx4=>eI x1 λx5=>iX x4 x5 1 λx6=>eI x6 λx7=>lS x2 4 λx8=>eI x3 λx9=>iX x8 x9 1 λx10=>eI x10 λx11=>sh (G.lR a0 x7 a1 x11 a2) λx12=>if !decide (x12=0) then AI (Sum.inr x12) else G.jD a0 a1 a2 a3 a4 a5 a6 a8 (i64.wrap (a9+1))
def sB (G:aa)(n:Nat)(a0 a1:θ)(a2:ν)(a3 a4:θ)(a5 a6:Sl)(a7 a8:Int):M (Unit⊕Int):=if decide (a8<a7) then sh (nn a3) λx0=>lI x0 0 λx1=>if decide (x1=10) then sh (nn a3) λx2=>iX a5 a8 1 λx3=>sh (nn a4) λx4=>iX a6 a8 1 λx5=>lS x2 3 λx6=>eI x3 λx7=>iX x6 x7 1 λx8=>eI x8 λx9=>lS x4 3 λx10=>eI x5 λx11=>iX x10 x11 1 λx12=>eI x12 λx13=>sh (G.lR a0 x9 a1 x13 none) λj5=>if !decide (j5=0) then AI (Sum.inr j5) else jf G n a0 a1 a2 a3 a4 a5 a6 a8 a7 a8 else jf G n a0 a1 a2 a3 a4 a5 a6 a8 a7 a8 else AI (Sum.inl ())
def wG (G:aa)(n:Nat)(a0:θ)(a1:Int)(a2:θ)(a3:Int)(a4:ν):M Int:=sh (nn a0) λx0=>sh (nn a2) λx1=>lS (x0.plus 0) 0 λx2=>iX x2 a1 5 λx3=>lS (x1.plus 0) 0 λx4=>iX x4 a3 5 λx5=>sh (nn (some x3)) λx6=>sh (nn (some x5)) λx7=>lI x6 0 λx8=>lI x7 0 λx9=>if decide (x8<x9) then AI (-1) else sh (nn (some x3)) λx10=>sh (nn (some x5)) λx11=>lI x10 0 λx12=>lI x11 0 λx13=>if decide (x13<x12) then AI 1 else sh (nn (some x3)) λj5=>sh (nn (some x5)) λx15=>lB j5 2 λrA=>lB x15 2 λx17=>if !rA==x17 then sh (nn (some x5)) λw4=>lB w4 2 λx19=>if x19 then AI (-1) else AI 1 else sh (nn (some x3)) λw4=>sh (nn (some x3)) λx19=>sh (nn (some x5)) λx20=>lI w4 0 λx21=>lT x19 1 λx22=>lT x20 1 λx23=>sh (vG n x21 x22 x23) λx24=>if !decide (x24=0) then AI x24 else sh (G.eG a0 a1) λx25=>sh (G.eG a2 a3) λx26=>sh (G.jD a0 a2 a4 (some x3) (some x5) x25 x26 (if (↑x26.len:Int)<(↑x25.len:Int) then (↑x26.len:Int) else (↑x25.len:Int)) 0) (dX (λx27=>if decide ((↑x25.len:Int)<(↑x26.len:Int)) then AI (-1) else if decide ((↑x26.len:Int)<(↑x25.len:Int)) then AI 1 else AI 0) (λx27=>AI x27))
def eW (G:aa)(n:Nat)(a0:Sl)(a1 a2:Int)(a3:ο)(a4 a5:Int):M Unit:=iX a0 (i64.wrap (a5-1)) 1 λx0=>iX a0 a5 1 λx1=>eI x0 λx2=>eI x1 λx3=>iX a0 a5 1 λx4=>sN x4 [vi x2] λx5=>iX a0 (i64.wrap (a5-1)) 1 λx6=>sN x6 [vi x3] λx7=>G.bS a0 a1 a2 a3 a4 (i64.wrap (a5-1))
def cD (G:aa)(n:Nat)(a0:Sl)(a1 a2:Int)(a3:ο)(a4 a5:Int):M Unit:=if decide (a1<a5) then iX a0 a5 1 λx0=>iX a0 (i64.wrap (a5-1)) 1 λx1=>eI x0 λx2=>eI x1 λx3=>sh (jo G n a3 x2 x3) λx4=>if decide (x4<0) then eW G n a0 a1 a2 a3 a4 a5 else AI () else AI ()
def cF (G:aa)(n:Nat)(a0:Sl)(a1 a2:Int)(a3:ο)(a4:Int):M Unit:=if decide (a4<a2) then sh (G.bS a0 a1 a2 a3 a4 a4) λx0=>G.bU a0 a1 a2 a3 (i64.wrap (a4+1)) else AI ()
def gS (G:aa)(n:Nat)(a0:Sl)(a1 a2:Int)(a3:ο):M Unit:=sh (G.bU a0 a1 a2 a3 (i64.wrap (a1+1))) λx0=>AI ()
def dJ (G:aa)(n:Nat)(a0:Sl)(a1:ο)(a2 a3 a4 a5:Int):M Unit:=if decide (0<=a5) then sh (G.dW a0 a5 a4 a2 a1) λx0=>G.cV a0 a1 a2 a3 a4 (i64.wrap (a5-1)) else AI ()
def dK (G:aa)(n:Nat)(a0:Sl)(a1:ο)(a2 a3 a4:Int):M Unit:=if decide (0<=a4) then iX a0 (i64.wrap (a2+a4)) 1 λx0=>iX a0 a2 1 λx1=>eI x0 λx2=>eI x1 λx3=>iX a0 a2 1 λx4=>sN x4 [vi x2] λx5=>iX a0 (i64.wrap (a2+a4)) 1 λx6=>sN x6 [vi x3] λx7=>sh (G.dW a0 a3 a4 a2 a1) λx8=>G.cW a0 a1 a2 a3 (i64.wrap (a4-1)) else AI ()
def jB (G:aa)(n:Nat)(a0:Sl)(a1 a2:Int)(a3:ο):M Unit:=sh (pB (decide (2≠0))) λx0=>sh (G.cV a0 a3 a1 0 (i64.wrap (a2-a1)) (i64.wrap ((i64.wrap (i64.wrap (a2-a1)-1)).tdiv 2))) λx1=>sh (G.cW a0 a3 a1 0 (i64.wrap (i64.wrap (a2-a1)-1))) λx2=>AI ()
def bQ (G:aa)(n:Nat)(a0:Addr)(a1:Int):M (Int×Int):=eI a0 λx0=>if decide (x0=0) then AI (a1,1) else if decide (x0=12) then AI (a1,2) else AI (a1,0)
def iJ (G:aa)(n:Nat)(a0:Sl)(a1 a2:Int)(a3:ο):M (Int×Int):=nW au [vi 0] λx0=>sh (pB (decide (4≠0))) λx1=>sh (pB (decide (4≠0))) λx2=>sh (pB (decide (4≠0))) λx3=>if decide (8<=i64.wrap (a2-a1)) then if decide (50<=i64.wrap (a2-a1)) then sh (G.cq a0 (i64.wrap (a1+i64.wrap (i64.wrap ((i64.wrap (a2-a1)).tdiv 4)*1))) (some (ak x0)) a3) λx4=>sh (G.cq a0 (i64.wrap (a1+i64.wrap (i64.wrap ((i64.wrap (a2-a1)).tdiv 4)*2))) (some (ak x0)) a3) λx5=>sh (G.cq a0 (i64.wrap (a1+i64.wrap (i64.wrap ((i64.wrap (a2-a1)).tdiv 4)*3))) (some (ak x0)) a3) λx6=>sh (G.dG a0 x4 x5 x6 (some (ak x0)) a3) λx7=>bQ G n (ak x0) x7 else sh (G.dG a0 (i64.wrap (a1+i64.wrap (i64.wrap ((i64.wrap (a2-a1)).tdiv 4)*1))) (i64.wrap (a1+i64.wrap (i64.wrap ((i64.wrap (a2-a1)).tdiv 4)*2))) (i64.wrap (a1+i64.wrap (i64.wrap ((i64.wrap (a2-a1)).tdiv 4)*3))) (some (ak x0)) a3) λx4=>bQ G n (ak x0) x4 else bQ G n (ak x0) (i64.wrap (a1+i64.wrap (i64.wrap ((i64.wrap (a2-a1)).tdiv 4)*2)))
def mO (G:aa)(n:Nat)(a0:Sl)(a1 a2:Int)(a3:ο)(a4 a5 a6:Int):M Unit:=if decide (1<=a6) then iX a0 a6 1 λx0=>iX a0 (i64.wrap (a6-1)) 1 λx1=>eI x0 λx2=>eI x1 λx3=>sh (gQ G n a3 x2 x3) λx4=>if !decide (x4<0) then AI () else iX a0 (i64.wrap (a6-1)) 1 λx5=>iX a0 a6 1 λx6=>eI x5 λx7=>eI x6 λx8=>iX a0 a6 1 λx9=>sN x9 [vi x7] λx10=>iX a0 (i64.wrap (a6-1)) 1 λx11=>sN x11 [vi x8] λx12=>G.bF a0 a1 a2 a3 a4 a5 (i64.wrap (a6-1)) else AI ()
def mP (G:aa)(n:Nat)(a0:Sl)(a1 a2:Int)(a3:ο)(a4 a5 a6:Int):M Unit:=if decide (a6<a2) then iX a0 a6 1 λx0=>iX a0 (i64.wrap (a6-1)) 1 λx1=>eI x0 λx2=>eI x1 λx3=>sh (gu G n a3 x2 x3) λx4=>if !decide (x4<0) then AI () else iX a0 (i64.wrap (a6-1)) 1 λx5=>iX a0 a6 1 λx6=>eI x5 λx7=>eI x6 λx8=>iX a0 a6 1 λx9=>sN x9 [vi x7] λx10=>iX a0 (i64.wrap (a6-1)) 1 λx11=>sN x11 [vi x8] λx12=>G.bG a0 a1 a2 a3 a4 a5 (i64.wrap (a6+1)) else AI ()
def bw (G:aa)(n:Nat)(a0:Sl)(a1 a2:Int)(a3:ο)(a4 a5:Int):M Int:=if decide (a4<a2) then iX a0 a4 1 λx0=>iX a0 (i64.wrap (a4-1)) 1 λx1=>eI x0 λx2=>eI x1 λx3=>sh (gP G n a3 x2 x3) λx4=>if !decide (x4<0) then G.aT a0 a1 a2 a3 (i64.wrap (a4+1)) a5 else AI a4 else AI a4
def dE (G:aa)(n:Nat)(a0:Sl)(a1 a2:Int)(a3:ο)(a4 a5:Int):M (Unit⊕Bool):=if decide (2<=i64.wrap (a2-a4)) then sh (G.bG a0 a1 a2 a3 a4 a5 (i64.wrap (a4+1))) λx0=>G.aU a0 a1 a2 a3 a4 (i64.wrap (a5+1)) else G.aU a0 a1 a2 a3 a4 (i64.wrap (a5+1))
def ea (G:aa)(n:Nat)(a0:Sl)(a1 a2:Int)(a3:ο)(a4 a5:Int):M (Unit⊕Bool):=if decide (a5<5) then sh (G.aT a0 a1 a2 a3 a4 a5) λx0=>if decide (x0=a2) then AI (Sum.inr true) else if decide (i64.wrap (a2-a1)<50) then AI (Sum.inr false) else iX a0 (i64.wrap (x0-1)) 1 λx1=>iX a0 x0 1 λx2=>eI x1 λx3=>eI x2 λx4=>iX a0 x0 1 λx5=>sN x5 [vi x3] λx6=>iX a0 (i64.wrap (x0-1)) 1 λx7=>sN x7 [vi x4] λx8=>if decide (2<=i64.wrap (x0-a1)) then sh (G.bF a0 a1 a2 a3 x0 a5 (i64.wrap (x0-1))) λx9=>dE G n a0 a1 a2 a3 x0 a5 else dE G n a0 a1 a2 a3 x0 a5 else AI (Sum.inl ())
def eM (G:aa)(n:Nat)(a0:Sl)(a1 a2:Int)(a3:ο):M Bool:=sh (G.aU a0 a1 a2 a3 (i64.wrap (a1+1)) 0) (dX (λx0=>AI false) (λx0=>AI x0))
def cm (G:aa)(n:Nat)(a0:Sl)(a1:Int)(a2:ο)(a3 a4:Int):M Int:=if decide (a3<=a4) then iX a0 a1 1 λx0=>iX a0 a4 1 λx1=>eI x0 λx2=>eI x1 λx3=>sh (je G n a2 x2 x3) λx4=>if decide (x4<0) then G.bH a0 a1 a2 a3 (i64.wrap (a4-1)) else AI a4 else AI a4
def cn (G:aa)(n:Nat)(a0:Sl)(a1:Int)(a2:ο)(a3 a4:Int):M Int:=if decide (a3<=a4) then iX a0 a1 1 λx0=>iX a0 a3 1 λx1=>eI x0 λx2=>eI x1 λx3=>sh (jd G n a2 x2 x3) λx4=>if !decide (x4<0) then G.bI a0 a1 a2 (i64.wrap (a3+1)) a4 else AI a3 else AI a3
def cp (G:aa)(n:Nat)(a0:Sl)(a1:Int)(a2:ο)(a3 a4:Int):M Int:=sh (G.bI a0 a1 a2 a3 a4) λx0=>sh (G.bH a0 a1 a2 x0 a4) λx1=>if decide (x1<x0) then AI x0 else iX a0 x1 1 λx2=>iX a0 x0 1 λx3=>eI x2 λx4=>eI x3 λx5=>iX a0 x0 1 λx6=>sN x6 [vi x4] λx7=>iX a0 x1 1 λx8=>sN x8 [vi x5] λx9=>G.bJ a0 a1 a2 (i64.wrap (x0+1)) (i64.wrap (x1-1))
def gF (G:aa)(n:Nat)(a0:Sl)(a1 a2 a3:Int)(a4:ο):M Int:=iX a0 a3 1 λx0=>iX a0 a1 1 λx1=>eI x0 λx2=>eI x1 λx3=>iX a0 a1 1 λx4=>sN x4 [vi x2] λx5=>iX a0 a3 1 λx6=>sN x6 [vi x3] λx7=>sh (G.bJ a0 a1 a4 (i64.wrap (a1+1)) (i64.wrap (a2-1))) λx8=>AI x8
def dq (G:aa)(n:Nat)(a0:Sl)(a1:Int)(a2:ο)(a3 a4:Int):M Int:=if decide (a3<=a4) then iX a0 a4 1 λx0=>iX a0 a1 1 λx1=>eI x0 λx2=>eI x1 λx3=>sh (kh G n a2 x2 x3) λx4=>if !decide (x4<0) then G.cJ a0 a1 a2 a3 (i64.wrap (a4-1)) else AI a4 else AI a4
def du (G:aa)(n:Nat)(a0:Sl)(a1:Int)(a2:ο)(a3 a4:Int):M Int:=if decide (a3<=a4) then iX a0 a3 1 λx0=>iX a0 a1 1 λx1=>eI x0 λx2=>eI x1 λx3=>sh (ke G n a2 x2 x3) λx4=>if decide (x4<0) then G.cK a0 a1 a2 (i64.wrap (a3+1)) a4 else AI a3 else AI a3
def dv (G:aa)(n:Nat)(a0:Sl)(a1:Int)(a2:ο)(a3 a4:Int):M Int:=sh (G.cK a0 a1 a2 a3 a4) λx0=>sh (G.cJ a0 a1 a2 x0 a4) λx1=>if decide (x1<x0) then AI x1 else iX a0 x1 1 λx2=>iX a0 x0 1 λx3=>eI x2 λx4=>eI x3 λx5=>iX a0 x0 1 λx6=>sN x6 [vi x4] λx7=>iX a0 x1 1 λx8=>sN x8 [vi x5] λx9=>G.cM a0 a1 a2 (i64.wrap (x0+1)) (i64.wrap (x1-1))
def dw (G:aa)(n:Nat)(a0:Sl)(a1:Int)(a2:ο)(a3 a4:Int):M Int:=if decide (a3<=a4) then iX a0 a4 1 λx0=>iX a0 a1 1 λx1=>eI x0 λx2=>eI x1 λx3=>sh (kI G n a2 x2 x3) λx4=>if !decide (x4<0) then G.cN a0 a1 a2 a3 (i64.wrap (a4-1)) else AI a4 else AI a4
def dz (G:aa)(n:Nat)(a0:Sl)(a1:Int)(a2:ο)(a3 a4:Int):M Int:=if decide (a3<=a4) then iX a0 a3 1 λx0=>iX a0 a1 1 λx1=>eI x0 λx2=>eI x1 λx3=>sh (kH G n a2 x2 x3) λx4=>if decide (x4<0) then G.cO a0 a1 a2 (i64.wrap (a3+1)) a4 else AI a3 else AI a3
def jg (G:aa)(n:Nat)(a0:Sl)(a1 a2 a3:Int)(a4:ο):M (Int×Bool):=iX a0 a3 1 λx0=>iX a0 a1 1 λx1=>eI x0 λx2=>eI x1 λx3=>iX a0 a1 1 λx4=>sN x4 [vi x2] λx5=>iX a0 a3 1 λx6=>sN x6 [vi x3] λx7=>sh (G.cO a0 a1 a4 (i64.wrap (a1+1)) (i64.wrap (a2-1))) λx8=>sh (G.cN a0 a1 a4 x8 (i64.wrap (a2-1))) λx9=>if decide (x9<x8) then iX a0 a1 1 λx10=>iX a0 x9 1 λx11=>eI x10 λx12=>eI x11 λx13=>iX a0 x9 1 λj5=>sN j5 [vi x12] λx15=>iX a0 a1 1 λrA=>sN rA [vi x13] λx17=>AI (x9,true) else iX a0 x9 1 λx10=>iX a0 x8 1 λx11=>eI x10 λx12=>eI x11 λx13=>iX a0 x8 1 λj5=>sN j5 [vi x12] λx15=>iX a0 x9 1 λrA=>sN rA [vi x13] λx17=>sh (G.cM a0 a1 a4 (i64.wrap (x8+1)) (i64.wrap (x9-1))) λw4=>iX a0 a1 1 λx19=>iX a0 w4 1 λx20=>eI x19 λx21=>eI x20 λx22=>iX a0 w4 1 λx23=>sN x23 [vi x21] λx24=>iX a0 a1 1 λx25=>sN x25 [vi x22] λx26=>AI (w4,false)
def bR (G:aa)(n:Nat)(a0:Sl)(a1 a2:Int)(a3:ο)(a4 a5:Int):M (Unit⊕Unit):=iX a0 (i64.wrap (a2+a4)) 1 λx0=>iX a0 (i64.wrap (a2+a5)) 1 λx1=>eI x0 λx2=>eI x1 λx3=>sh (lC G n a3 x2 x3) λx4=>if !decide (x4<0) then AI (Sum.inr ()) else iX a0 (i64.wrap (a2+a5)) 1 λx5=>iX a0 (i64.wrap (a2+a4)) 1 λx6=>eI x5 λx7=>eI x6 λx8=>iX a0 (i64.wrap (a2+a4)) 1 λx9=>sN x9 [vi x7] λx10=>iX a0 (i64.wrap (a2+a5)) 1 λx11=>sN x11 [vi x8] λx12=>G.cX a0 a1 a2 a3 a5
def dL (G:aa)(n:Nat)(a0:Sl)(a1 a2:Int)(a3:ο)(a4:Int):M (Unit⊕Unit):=if decide (a1<=i64.wrap (i64.wrap (2*a4)+1)) then AI (Sum.inl ()) else if decide (i64.wrap (i64.wrap (i64.wrap (2*a4)+1)+1)<a1) then iX a0 (i64.wrap (a2+i64.wrap (i64.wrap (2*a4)+1))) 1 λx0=>iX a0 (i64.wrap (i64.wrap (a2+i64.wrap (i64.wrap (2*a4)+1))+1)) 1 λx1=>eI x0 λx2=>eI x1 λx3=>sh (lA G n a3 x2 x3) λx4=>if decide (x4<0) then bR G n a0 a1 a2 a3 a4 (i64.wrap (i64.wrap (i64.wrap (2*a4)+1)+1)) else bR G n a0 a1 a2 a3 a4 (i64.wrap (i64.wrap (2*a4)+1)) else bR G n a0 a1 a2 a3 a4 (i64.wrap (i64.wrap (2*a4)+1))
def jC (G:aa)(n:Nat)(a0:Sl)(a1 a2 a3:Int)(a4:ο):M Unit:=sh (G.cX a0 a2 a3 a4 a1) (dX (λx0=>AI ()) (λx0=>AI ()))
def qW (G:aa)(n:Nat)(a0:Sl)(a1:Int)(a2:θ)(a3:ο):M Int:=sh (G.dG a0 (i64.wrap (a1-1)) a1 (i64.wrap (a1+1)) a2 a3) λx0=>AI x0
def kp (G:aa)(n:Nat)(a0:Sl)(a1 a2 a3:Int)(a4:θ)(a5:ο):M Int:=sh (G.dH a0 a1 a2 a4 a5) λx0=>sh (G.dH a0 x0.2 a3 a4 a5) λx1=>sh (G.dH a0 x0.1 x1.1 a4 a5) λx2=>AI x2.2
def kq (G:aa)(n:Nat)(a0:Sl)(a1 a2:Int)(a3:θ)(a4:ο):M (Int×Int):=iX a0 a2 1 λx0=>iX a0 a1 1 λx1=>eI x0 λx2=>eI x1 λx3=>sh (mE G n a4 x2 x3) λx4=>if decide (x4<0) then sh (nn a3) λx5=>eI x5 λx6=>sh (nn a3) λx7=>sN x7 [vi (i64.wrap (x6+1))] λx8=>AI (a2,a1) else AI (a1,a2)
def aa.at:Nat->aa|0=>⟨λ_ _ _ _ _ _=>AS,λ_ _=>AS,λ_ _=>AS,λ_ _ _ _=>AS,λ_ _ _ _ _=>AS,λ_ _ _ _ _ _ _=>AS,λ_ _ _ _ _=>AS,λ_ _ _ _ _ _ _ _ _=>AS,λ_ _ _ _ _=>AS,λ_ _ _ _ _ _=>AS,λ_ _ _ _ _=>AS,λ_ _ _ _=>AS,λ_ _ _ _ _ _=>AS,λ_ _ _ _ _=>AS,λ_ _ _ _=>AS,λ_ _ _ _=>AS,λ_ _ _ _ _ _ _=>AS,λ_ _ _ _ _ _ _=>AS,λ_ _ _ _ _ _=>AS,λ_ _ _ _ _ _=>AS,λ_ _ _ _=>AS,λ_ _ _ _ _=>AS,λ_ _ _ _ _=>AS,λ_ _ _ _ _=>AS,λ_ _ _ _ _=>AS,λ_ _ _ _ _=>AS,λ_ _ _ _ _=>AS,λ_ _ _ _ _=>AS,λ_ _ _ _ _=>AS,λ_ _ _ _ _=>AS,λ_ _ _ _ _=>AS,λ_ _ _ _ _=>AS,λ_ _ _ _ _=>AS,λ_ _ _ _=>AS,λ_ _ _ _ _ _=>AS,λ_ _ _ _ _=>AS⟩|n+1=>⟨lP (aa.at n) n,oC (aa.at n) n,kO (aa.at n) n,mF (aa.at n) n,u9 (aa.at n) n,dU (aa.at n) n,eQ (aa.at n) n,sB (aa.at n) n,wG (aa.at n) n,cD (aa.at n) n,cF (aa.at n) n,gS (aa.at n) n,dJ (aa.at n) n,dK (aa.at n) n,jB (aa.at n) n,iJ (aa.at n) n,mO (aa.at n) n,mP (aa.at n) n,bw (aa.at n) n,ea (aa.at n) n,eM (aa.at n) n,cm (aa.at n) n,cn (aa.at n) n,cp (aa.at n) n,gF (aa.at n) n,dq (aa.at n) n,du (aa.at n) n,dv (aa.at n) n,dw (aa.at n) n,dz (aa.at n) n,jg (aa.at n) n,dL (aa.at n) n,jC (aa.at n) n,qW (aa.at n) n,kp (aa.at n) n,kq (aa.at n) n⟩
def fG (n:Nat):=(aa.at n).fG
def eG (n:Nat):=(aa.at n).eG
def dV (n:Nat):=(aa.at n).dV
def kE (n:Nat):=(aa.at n).kE
def lR (n:Nat):=(aa.at n).lR
def bE (n:Nat):=(aa.at n).bE
def dh (n:Nat):=(aa.at n).dh
def jD (n:Nat):=(aa.at n).jD
def sC (n:Nat):=(aa.at n).sC
def bS (n:Nat):=(aa.at n).bS
def bU (n:Nat):=(aa.at n).bU
def dO (n:Nat):=(aa.at n).dO
def cV (n:Nat):=(aa.at n).cV
def cW (n:Nat):=(aa.at n).cW
def fj (n:Nat):=(aa.at n).fj
def ef (n:Nat):=(aa.at n).ef
def bF (n:Nat):=(aa.at n).bF
def bG (n:Nat):=(aa.at n).bG
def aT (n:Nat):=(aa.at n).aT
def aU (n:Nat):=(aa.at n).aU
def b7 (n:Nat):=(aa.at n).b7
def bH (n:Nat):=(aa.at n).bH
def bI (n:Nat):=(aa.at n).bI
def bJ (n:Nat):=(aa.at n).bJ
def dA (n:Nat):=(aa.at n).dA
def cJ (n:Nat):=(aa.at n).cJ
def cK (n:Nat):=(aa.at n).cK
def cM (n:Nat):=(aa.at n).cM
def cN (n:Nat):=(aa.at n).cN
def cO (n:Nat):=(aa.at n).cO
def eU (n:Nat):=(aa.at n).eU
def cX (n:Nat):=(aa.at n).cX
def dW (n:Nat):=(aa.at n).dW
def cq (n:Nat):=(aa.at n).cq
def dG (n:Nat):=(aa.at n).dG
def dH (n:Nat):=(aa.at n).dH
def uG (n:Nat):=av (aa.at n) n
def qw (n:Nat):=jo (aa.at n) n
def nE (n:Nat):=gP (aa.at n) n
def nF (n:Nat):=gQ (aa.at n) n
def mQ (n:Nat):=gu (aa.at n) n
def qc (n:Nat):=jd (aa.at n) n
def qd (n:Nat):=je (aa.at n) n
def sW (n:Nat):=kH (aa.at n) n
def sX (n:Nat):=kI (aa.at n) n
def sD (n:Nat):=ke (aa.at n) n
def sE (n:Nat):=kh (aa.at n) n
def tS (n:Nat):=lA (aa.at n) n
def tT (n:Nat):=lC (aa.at n) n
def va (n:Nat):=mE (aa.at n) n
def zj (n:Nat):=lQ (aa.at n) n
def sY (n:Nat):=db (aa.at n) n
def sZ (n:Nat):=da (aa.at n) n
def s6 (n:Nat):=bt (aa.at n) n
def s7 (n:Nat):=cZ (aa.at n) n
def Df (n:Nat):=jf (aa.at n) n
def pR (n:Nat):=eW (aa.at n) n
def sF (n:Nat):=bQ (aa.at n) n
def mG (n:Nat):=dE (aa.at n) n
def sG (n:Nat):=bR (aa.at n) n
abbrev YN (n:Nat):dZ:=eN 36 [vS,aw] [cB] (eG n)
abbrev ahU:=L1 (bL 175) [(1,aw),(2,aG),(5,aG),(6,cB),(37,aw),(38,aw)] [] ([7]++rG 38 8) 0 fG
abbrev YO (n:Nat):dZ:=eN 50 [cB,tG] [] (dV n)
abbrev YP (n:Nat):dZ:=eN 51 [aw,aw,aG,aG] [aw] (kE n)
abbrev YQ (n:Nat):dZ:=eN 52 [vS,aw,vS,aw,tyM] [aw] (lR n)
abbrev YR (n:Nat):dZ:=eN 64 [cB,aw,aw,aw,tG] [] (dh n)
abbrev ahV:=Lr [0,1,1] [(0,cB),(1,aw),(2,aw),(3,aw),(4,tG),(10,jF),(11,jF)] [] ([1,2,3]++rG 10 138) bE
abbrev YS (n:Nat):dZ:=eN 66 [vS,aw,vS,aw,tyM] [aw] (sC n)
abbrev ahW:=L2 (bL 351) [(0,vS),(2,vS),(4,tyM),(11,vS),(12,vS),(14,cB),(15,cB),(93,aw),(94,aw)] [] [(10,aw)] ([10,16,17,18]++rG 94 62) 1 .ret jD
abbrev YT (n:Nat):dZ:=eN 77 [cB,aw,aw,tG] [] (dO n)
abbrev ahX:=L1 [0,1] [(0,cB),(1,aw),(2,aw),(3,tG),(8,aw)] [] ([8,9]++rG 12 41) 0 bU
abbrev ahY:=L1 (bL 329) [(0,cB),(1,aw),(2,aw),(3,tG),(8,aw),(9,aw)] [] ([9]++rG 18 35) 2 bS
abbrev YU (n:Nat):dZ:=eN 78 [cB,aw,aw,tG] [] (fj n)
abbrev ahZ:=L1 (bL 87) [(0,cB),(3,tG),(8,aw),(9,aw),(10,aw),(11,aw)] [] ([11]++rG 20 10) 0 cV
abbrev ah0:=L1 (bL 95) [(0,cB),(3,tG),(8,aw),(9,aw),(12,aw)] [] ([12]++rG 32 28) 2 cW
abbrev YV (n:Nat):dZ:=eN 80 [cB,aw,aw,tG] [aw,aw] (ef n)
abbrev YW (n:Nat):dZ:=eN 82 [cB,aw,aw,tG] [jF] (b7 n)
abbrev ah1:=L2 [0,1,0,1,1] [(0,cB),(1,aw),(2,aw),(3,tG),(9,aw),(10,aw)] [] [(8,jF)] (rG 8 5++rG 15 126) 0 .ret aU
abbrev ah2:=L1 (bL 2123) [(0,cB),(1,aw),(2,aw),(3,tG),(9,aw),(10,aw)] [(9,aw)] ([9]++rG 19 20) 2 aT
abbrev ah3:=L1 (bL 351819) [(0,cB),(1,aw),(2,aw),(3,tG),(9,aw),(10,aw),(11,aw)] [] ([11]++rG 68 33) 4 bF
abbrev ah4:=L1 (bL 360011) [(0,cB),(1,aw),(2,aw),(3,tG),(9,aw),(10,aw),(12,aw)] [] ([12]++rG 107 34) 6 bG
abbrev YX (n:Nat):dZ:=eN 83 [cB,aw,aw,aw,tG] [aw] (dA n)
abbrev ah5:=L1 [0,0,1,1,1] [(0,cB),(1,aw),(4,tG),(11,aw),(12,aw)] [(11,aw)] ([11,12]++rG 31 58) 0 bJ
abbrev ah6:=L1 (bL 519) [(0,cB),(1,aw),(4,tG),(11,aw),(12,aw)] [(11,aw)] ([11]++rG 31 19) 2 bI
abbrev ah7:=L1 (bL 1159) [(0,cB),(1,aw),(4,tG),(11,aw),(12,aw)] [(12,aw)] ([12]++rG 50 18) 4 bH
abbrev YY (n:Nat):dZ:=eN 84 [cB,aw,aw,aw,tG] [aw,jF] (eU n)
abbrev ah8:=L1 [0,0,1,1,1] [(0,cB),(1,aw),(4,tG),(12,aw),(13,aw)] [(12,aw)] ([12]++rG 32 18) 0 cO
abbrev ah9:=L1 (bL 79) [(0,cB),(1,aw),(4,tG),(12,aw),(13,aw)] [(13,aw)] ([13]++rG 50 19) 2 cN
abbrev aia:=L1 (bL 2559) [(0,cB),(1,aw),(4,tG),(12,aw),(13,aw)] [(13,aw)] ([12,13]++rG 105 58) 4 cM
abbrev aib:=L1 (bL 33279) [(0,cB),(1,aw),(4,tG),(12,aw),(13,aw)] [(12,aw)] ([12]++rG 105 18) 6 cK
abbrev aic:=L1 (bL 74239) [(0,cB),(1,aw),(4,tG),(12,aw),(13,aw)] [(13,aw)] ([13]++rG 123 19) 8 cJ
abbrev Qw (n:Nat):dZ:=eN 111 [cB,aw,aw,aw,tG] [] (dW n)
abbrev acO:=L2 [0,1] [(0,cB),(2,aw),(3,aw),(4,tG),(10,aw)] [] [] ([10,11]++rG 13 69) 0 .ret cX
abbrev Qx (n:Nat):dZ:=eN 114 [cB,aw,vS,tG] [aw] (cq n)
abbrev Qy (n:Nat):dZ:=eN 115 [cB,aw,aw,aw,vS,tG] [aw] (dG n)
abbrev Qz (n:Nat):dZ:=eN 141 [cB,aw,aw,vS,tG] [aw,aw] (dH n)
abbrev C13 (n:Nat):List dZ:=YN n::YO n::YP n::YQ n::YR n::YS n::YT n::YU n::YV n::YW n::YX n::YY n::Qw n::Qx n::Qy n::Qz n::C12 n
abbrev aid (n:Nat):List (iV Sl):=[jN (bL 351) [.code (bL 127)] [(1,aw),(2,aG),(5,aG),(6,cB)] (zj n)]
def aie:=dR [(1,[5,13]++rG 0 5++rG 6 7++[14,15,16,17])]
abbrev aif (n:Nat):List ru:=[dN 84 [aw,aw] [aw] (uG n)]
def YZ:=dR [(17,rG 0 8++[9,10,11,8]++rG 12 5)]
abbrev Va (n:Nat):List (iV Unit):=[jN (bL 1507) [.code (bL 2019),.ar 1] [(0,cB),(1,aw),(2,aw),(3,aw),(4,tG),(10,jF),(11,jF),(12,aw)] (sY n), jN (bL 10211) [.code (bL 14307),.code (bL 8163),.ar 1] [(0,cB),(1,aw),(2,aw),(3,aw),(4,tG),(10,jF),(11,jF),(12,aw),(13,aw),(14,aw)] (sZ n), jN (bL 20451) [.code (bL 28643),.code (bL 16355),.ar 1] [(0,cB),(1,aw),(2,aw),(3,aw),(4,tG),(10,jF),(11,jF),(12,aw),(13,aw)] (s6 n), jN (bL 24547) [.code (bL 32739),.ar 1] [(0,cB),(1,aw),(2,aw),(3,aw),(4,tG),(10,jF),(11,jF),(12,aw),(13,aw)] (s7 n)]
def Y0:=dR [(1,[0,1,2,3,5,7,8,9,10,12,4,6,14,11,13,15]),(2,[0,1,2,4,5,6,3,7,8,9]),(4,[0,1,2,4,5,6,3,7,8,9]),(6,[0,1,2,4,5,6,3,7,8,9]),(10,[0,1,2,4,5,6,8,9,10,3,7,11,12,13]),(18,[0,1,2,3,5,6,7,11,12,13,14,16,17,18,4,8,9,10,15]++rG 19 5),(21,[0,1,2,3,5,6,7,11,12,13,14,16,17,18,22,4,8,9,10,15,19,20,21,23,24])]
abbrev Vb (n:Nat):List (iV (Unit⊕Int)):=[jN (bL 91743) [.code (bL 124511),.ar 2,.code (bL 7775)] [(0,vS),(2,vS),(4,tyM),(11,vS),(12,vS),(14,cB),(15,cB),(16,aw),(93,aw),(94,aw)] (Df n)]
abbrev aih (n:Nat):List ru:=[dN 22 [aw,aw] [aw] (qw n)]
def QA:=dR [(4,rG 0 8++[9,10,11,12,8,13,14,15,16]),(6,rG 0 9++[10,11,12,9]++rG 13 5)]
abbrev Vc (n:Nat):List (iV Unit):=[jN (bL 4681) [.ar 3,.code (bL 3657)] [(0,cB),(1,aw),(2,aw),(3,tG),(8,aw),(9,aw)] (pR n)]
def QB:=dR [(10,rG 0 11++[12,13,14,11]++rG 15 5)]
abbrev aii (n:Nat):List (iV (Int×Int)):=[jN (bL 383) [.code (bL 511)] [(11,aG),(13,aw)] (sF n)]
abbrev aij (n:Nat):List ru:=[dN 23 [aw,aw] [aw] (nE n), dN 72 [aw,aw] [aw] (nF n), dN 112 [aw,aw] [aw] (mQ n)]
def H9:=dR [(5,rG 0 8++[9,10,11,12,8]++rG 13 5),(11,rG 0 9++[10,11,12,9]++rG 13 5),(16,[0,1,2,3,5,6,7,8,4,9,10,11,12]),(17,rG 0 9++[10,11,12,9]++rG 13 5),(22,[0,1,2,3,5,6,7,8,4,9,10,11,12]),(23,rG 0 9++[10,11,12,9]++rG 13 5)]
abbrev Ve (n:Nat):List (iV (Unit⊕Bool)):=[jN (bL 48715) [.code (bL 65099),.ar 1,.code (bL 459)] [(0,cB),(1,aw),(2,aw),(3,tG),(9,aw),(10,aw)] (mG n)]
abbrev aik (n:Nat):List ru:=[dN 35 [aw,aw] [aw] (qc n), dN 54 [aw,aw] [aw] (qd n)]
def LG:=dR [(1,rG 0 7++[8,9,10,7]++rG 11 5),(3,rG 0 8++[9,10,11,8]++rG 12 5),(5,rG 0 8++[9,10,11,8,12,13,14,15]),(8,rG 0 7++[8,9,10,7]++rG 11 5)]
abbrev ail (n:Nat):List ru:=[dN 36 [aw,aw] [aw] (sW n), dN 54 [aw,aw] [aw] (sX n), dN 109 [aw,aw] [aw] (sD n), dN 127 [aw,aw] [aw] (sE n)]
def Fg:=dR [(1,rG 0 7++[8,9,10,7]++rG 11 5),(3,rG 0 8++[9,10,11,8,12,13,14,15]),(5,rG 0 8++[9,10,11,8]++rG 12 5),(8,rG 0 7++[8,9,10,7]++rG 11 5),(10,rG 0 7++[8,9,10,7]++rG 11 5),(13,rG 0 8++[9,10,11,8,12,13,14,15]),(15,rG 0 8++[9,10,11,8]++rG 12 5),(18,rG 0 7++[8,9,10,7]++rG 11 5),(21,rG 0 7++[8,9,10,7]++rG 11 5)]
abbrev acP (n:Nat):List ru:=[dN 24 [aw,aw] [aw] (tS n), dN 43 [aw,aw] [aw] (tT n)]
def R8:=dR [(3,rG 0 11++rG 12 6++[11,18,19,20,21]),(5,rG 0 6++rG 7 5++[6,12,13,14,15]),(6,rG 0 13++rG 14 5++[13]++rG 19 5)]
abbrev QC (n:Nat):List (iV (Unit⊕Unit)):=[jN (bL 625) [.code (bL 881),.code (bL 497),.ar 1] [(0,cB),(2,aw),(3,aw),(4,tG),(10,aw),(11,aw)] (sG n)]
abbrev acQ (n:Nat):List ru:=[dN 12 [aw,aw] [aw] (va n)]
def acR:=dR [(1,[0,1,2,3,5,6,7,4,8,9,10])]
def ao (n:Nat):Prop:=aH TZp (YN n)/\aH TZp (YO n)/\aH TZp (YP n)/\aH TZp (YQ n)/\aH TZp (YR n)/\aH TZp (YS n)/\aH TZp (YT n)/\aH TZp (YU n)/\aH TZp (YV n)/\aH TZp (YW n)/\aH TZp (YX n)/\aH TZp (YY n)/\aH TZp (Qw n)/\aH TZp (Qx n)/\aH TZp (Qy n)/\aH TZp (Qz n)
def iQ (n:Nat)(H:ao n):eY TZp (C13 n):=.cons H.1 (.cons H.2.1 (.cons H.2.2.1 (.cons H.2.2.2.1 (.cons H.2.2.2.2.1 (.cons H.2.2.2.2.2.1 (.cons H.2.2.2.2.2.2.1 (.cons H.2.2.2.2.2.2.2.1 (.cons H.2.2.2.2.2.2.2.2.1 (.cons H.2.2.2.2.2.2.2.2.2.1 (.cons H.2.2.2.2.2.2.2.2.2.2.1 (.cons H.2.2.2.2.2.2.2.2.2.2.2.1 (.cons H.2.2.2.2.2.2.2.2.2.2.2.2.1 (.cons H.2.2.2.2.2.2.2.2.2.2.2.2.2.1 (.cons H.2.2.2.2.2.2.2.2.2.2.2.2.2.2.1 (.cons H.2.2.2.2.2.2.2.2.2.2.2.2.2.2.2 (K12 n))))))))))))))))
def Vf (n:Nat)(H:Hy ao n):=ahU.k TZp Tryz.f36 n (hT:=λm hm=>.m1 (iQ m ((H.d hm).s)))
def vH (n:Nat)(H:Hy ao n):aH TZp (YN (n+1)):=bg Tryz.f36 (js:=aid n) (hT:=⟨.nil,iQ n (H.s),.nil,(.cc (Vf n H) .nil),(.cc .nil)⟩)
def s9 (n:Nat)(H:Hy ao n):aH TZp (YO (n+1)):=bg Tryz.f50 (hT:=.m1 (iQ n (H.s)))
def uH (n:Nat)(H:Hy ao n):aH TZp (YP (n+1)):=bg Tryz.f51 (dr:=aie) (hT:=.m1 (iQ n (H.s)))
def Ag (n:Nat)(H:Hy ao n):aH TZp (YQ (n+1)):=bg Tryz.f52 (hT:=.m1 (iQ n (H.s)))
def Y1 (n:Nat)(H:ao n):qO TZp (aif n):=.cons (dj (.cons (oQ [aG,aG] (H).2.2.1) .nil)) .nil
def Vg (n:Nat)(H:Hy ao n):=ahV.k TZp Tryz.f64 n (dr:=YZ) (jt:=Va) (hT:=λm hm=>⟨.nil,iQ m ((H.d hm).s),(Y1 m ((H.d hm).s)),.nil,(.cc (.cc (.cc (.cc .nil))))⟩)
def rz (n:Nat)(H:Hy ao n):aH TZp (YR (n+1)):=bg Tryz.f64 (dr:=YZ) (hT:=⟨.nil,iQ n (H.s),(Y1 n (H.s)),(.cc (Vg n H) .nil),.nil⟩)
def Vh (n:Nat)(H:Hy ao n):=ahW.k TZp Tryz.f66 n (dr:=Y0) (jt:=Vb) (hT:=λm hm=>.m3 (iQ m ((H.d hm).s)) (.cc .nil))
def A4 (n:Nat)(H:Hy ao n):aH TZp (YS (n+1)):=bg Tryz.f66 (dr:=Y0) (hT:=.m2 (iQ n (H.s)) (.cc (Vh n H) .nil))
def QD (n:Nat)(H:ao n):qO TZp (aih n):=.cons (dj (.cons (oQ [aG,aG] (H).2.2.1) .nil)) .nil
def Vi (n:Nat)(H:Hy ao n):=ahY.k TZp Tryz.f77 n (dr:=QA) (jt:=Vc) (hT:=λm hm=>⟨.nil,iQ m ((H.d hm).s),(QD m ((H.d hm).s)),.nil,(.cc .nil)⟩)
def Vj (n:Nat)(H:Hy ao n):=ahX.k TZp Tryz.f77 n (dr:=QA) (hT:=λm hm=>⟨.nil,iQ m ((H.d hm).s),(QD m ((H.d hm).s)),(.cc (Vi m (H.d hm)) .nil),.nil⟩)
def oN (n:Nat)(H:Hy ao n):aH TZp (YT (n+1)):=bg Tryz.f77 (dr:=QA) (hT:=⟨.nil,iQ n (H.s),(QD n (H.s)),(.cc (Vj n H) .nil),.nil⟩)
def Vk (n:Nat)(H:Hy ao n):=ahZ.k TZp Tryz.f78 n (dr:=QB) (hT:=λm hm=>.m1 (iQ m ((H.d hm).s)))
def Vl (n:Nat)(H:Hy ao n):=ah0.k TZp Tryz.f78 n (dr:=QB) (hT:=λm hm=>.m1 (iQ m ((H.d hm).s)))
def qX (n:Nat)(H:Hy ao n):aH TZp (YU (n+1)):=bg Tryz.f78 (dr:=QB) (hT:=.m2 (iQ n (H.s)) (.cc (Vk n H) (.cc (Vl n H) .nil)))
def pS (n:Nat)(H:Hy ao n):aH TZp (YV (n+1)):=bg Tryz.f80 (js:=aii n) (hT:=.m3 (iQ n (H.s)) (.cc .nil))
def Ia (n:Nat)(H:ao n):qO TZp (aij n):=.cons (dj (.cons (oQ [aG,aG] (H).2.2.1) .nil)) (.cons (dj (.cons (oQ [aG,aG] (H).2.2.1) .nil)) (.cons (dj (.cons (oQ [aG,aG] (H).2.2.1) .nil)) .nil))
def Vm (n:Nat)(H:Hy ao n):=ah3.k TZp Tryz.f82 n (dr:=H9) (hT:=λm hm=>⟨.nil,iQ m ((H.d hm).s),(Ia m ((H.d hm).s)),.nil,.nil⟩)
def Vn (n:Nat)(H:Hy ao n):=ah4.k TZp Tryz.f82 n (dr:=H9) (hT:=λm hm=>⟨.nil,iQ m ((H.d hm).s),(Ia m ((H.d hm).s)),.nil,.nil⟩)
def Vo (n:Nat)(H:Hy ao n):=ah2.k TZp Tryz.f82 n (dr:=H9) (hT:=λm hm=>⟨.nil,iQ m ((H.d hm).s),(Ia m ((H.d hm).s)),.nil,.nil⟩)
def Vp (n:Nat)(H:Hy ao n):=ah1.k TZp Tryz.f82 n (dr:=H9) (jt:=Ve) (hT:=λm hm=>⟨.nil,iQ m ((H.d hm).s),(Ia m ((H.d hm).s)),(.cc (Vo m (H.d hm)) (.cc (Vm m (H.d hm)) (.cc (Vn m (H.d hm)) .nil))),(.cc .nil)⟩)
def lU (n:Nat)(H:Hy ao n):aH TZp (YW (n+1)):=bg Tryz.f82 (dr:=H9) (hT:=⟨.nil,iQ n (H.s),(Ia n (H.s)),(.cc (Vp n H) .nil),.nil⟩)
def LH (n:Nat)(H:ao n):qO TZp (aik n):=.cons (dj (.cons (oQ [aG,aG] (H).2.2.1) .nil)) (.cons (dj (.cons (oQ [aG,aG] (H).2.2.1) .nil)) .nil)
def Vq (n:Nat)(H:Hy ao n):=ah7.k TZp Tryz.f83 n (dr:=LG) (hT:=λm hm=>⟨.nil,iQ m ((H.d hm).s),(LH m ((H.d hm).s)),.nil,.nil⟩)
def Vr (n:Nat)(H:Hy ao n):=ah6.k TZp Tryz.f83 n (dr:=LG) (hT:=λm hm=>⟨.nil,iQ m ((H.d hm).s),(LH m ((H.d hm).s)),.nil,.nil⟩)
def Vs (n:Nat)(H:Hy ao n):=ah5.k TZp Tryz.f83 n (dr:=LG) (hT:=λm hm=>⟨.nil,iQ m ((H.d hm).s),(LH m ((H.d hm).s)),(.cc (Vr m (H.d hm)) (.cc (Vq m (H.d hm)) .nil)),.nil⟩)
def oD (n:Nat)(H:Hy ao n):aH TZp (YX (n+1)):=bg Tryz.f83 (dr:=LG) (hT:=⟨.nil,iQ n (H.s),(LH n (H.s)),(.cc (Vs n H) .nil),.nil⟩)
def Fh (n:Nat)(H:ao n):qO TZp (ail n):=.cons (dj (.cons (oQ [aG,aG] (H).2.2.1) .nil)) (.cons (dj (.cons (oQ [aG,aG] (H).2.2.1) .nil)) (.cons (dj (.cons (oQ [aG,aG] (H).2.2.1) .nil)) (.cons (dj (.cons (oQ [aG,aG] (H).2.2.1) .nil)) .nil)))
def Vt (n:Nat)(H:Hy ao n):=aic.k TZp Tryz.f84 n (dr:=Fg) (hT:=λm hm=>⟨.nil,iQ m ((H.d hm).s),(Fh m ((H.d hm).s)),.nil,.nil⟩)
def Vu (n:Nat)(H:Hy ao n):=aib.k TZp Tryz.f84 n (dr:=Fg) (hT:=λm hm=>⟨.nil,iQ m ((H.d hm).s),(Fh m ((H.d hm).s)),.nil,.nil⟩)
def Vv (n:Nat)(H:Hy ao n):=aia.k TZp Tryz.f84 n (dr:=Fg) (hT:=λm hm=>⟨.nil,iQ m ((H.d hm).s),(Fh m ((H.d hm).s)),(.cc (Vu m (H.d hm)) (.cc (Vt m (H.d hm)) .nil)),.nil⟩)
def Vw (n:Nat)(H:Hy ao n):=ah9.k TZp Tryz.f84 n (dr:=Fg) (hT:=λm hm=>⟨.nil,iQ m ((H.d hm).s),(Fh m ((H.d hm).s)),.nil,.nil⟩)
def Vx (n:Nat)(H:Hy ao n):=ah8.k TZp Tryz.f84 n (dr:=Fg) (hT:=λm hm=>⟨.nil,iQ m ((H.d hm).s),(Fh m ((H.d hm).s)),.nil,.nil⟩)
def qx (n:Nat)(H:Hy ao n):aH TZp (YY (n+1)):=bg Tryz.f84 (dr:=Fg) (hT:=⟨.nil,iQ n (H.s),(Fh n (H.s)),(.cc (Vx n H) (.cc (Vw n H) (.cc (Vv n H) .nil))),.nil⟩)
def R9 (n:Nat)(H:ao n):qO TZp (acP n):=.cons (dj (.cons (oQ [aG,aG] (H).2.2.1) .nil)) (.cons (dj (.cons (oQ [aG,aG] (H).2.2.1) .nil)) .nil)
def QE (n:Nat)(H:Hy ao n):=acO.k TZp Tryz.f111 n (dr:=R8) (jt:=QC) (hT:=λm hm=>⟨.nil,iQ m ((H.d hm).s),(R9 m ((H.d hm).s)),.nil,(.cc .nil)⟩)
def qY (n:Nat)(H:Hy ao n):aH TZp (Qw (n+1)):=bg Tryz.f111 (dr:=R8) (hT:=⟨.nil,iQ n (H.s),(R9 n (H.s)),(.cc (QE n H) .nil),.nil⟩)
def oE (n:Nat)(H:Hy ao n):aH TZp (Qx (n+1)):=bg Tryz.f114 (hT:=.m1 (iQ n (H.s)))
def sH (n:Nat)(H:Hy ao n):aH TZp (Qy (n+1)):=bg Tryz.f115 (hT:=.m1 (iQ n (H.s)))
def acS (n:Nat)(H:ao n):qO TZp (acQ n):=.cons (dj (.cons (oQ [aG,aG] (H).2.2.1) .nil)) .nil
def sI (n:Nat)(H:Hy ao n):aH TZp (Qz (n+1)):=bg Tryz.f141 (dr:=acR) (hT:=⟨.nil,iQ n (H.s),(acS n (H.s)),.nil,.nil⟩)
def wY (n:Nat):ao n:=NT (Q:=ao) ⟨gR Tryz.f36,gR Tryz.f50,gR Tryz.f51,gR Tryz.f52,gR Tryz.f64,gR Tryz.f66,gR Tryz.f77,gR Tryz.f78,gR Tryz.f80,gR Tryz.f82,gR Tryz.f83,gR Tryz.f84,gR Tryz.f111,gR Tryz.f114,gR Tryz.f115,gR Tryz.f141⟩ (λk h=>⟨vH k h,s9 k h,uH k h,Ag k h,rz k h,A4 k h,oN k h,qX k h,pS k h,lU k h,oD k h,qx k h,qY k h,oE k h,sH k h,sI k h⟩) n
def K13 (n:Nat):eY TZp (C13 n):=iQ n (wY n)
abbrev C14 (n:Nat):List dZ:=afC n::C13 n
def K14 (n:Nat):eY TZp (C14 n):=.cons (Jw n) (K13 n)
def tU:uC (Addr->Sl->Sl->Int->Int->M (Unit⊕Int)):=λG n a0 a1 a2 a3 a4=>if decide (a4<a3) then iX a2 a4 1 λx0=>eB x0 λx1=>if x1 then iX a1 a4 1 λx2=>eI x2 λx3=>if !decide (x3=1) then AI (Sum.inr 3) else G a0 a1 a2 a3 (i64.wrap (a4+1)) else G a0 a1 a2 a3 (i64.wrap (a4+1)) else AI (Sum.inl ())
def ph:=lp tU
theorem B8 (n:Nat):ph (n+1)=tU (ph n) n:=rfl
def tV:uC (Addr->Sl->Sl->Int->Int->M (Unit⊕Int)):=λG n a0 a1 a2 a3 a4=>if decide (a4<a3) then iX a2 a4 5 λx0=>nL x0 λx1=>nW az [vi 0,.string (ofBytes []),.bool false,aI,aI] λx2=>sN (ak x2) [vi x1.1,.string x1.2.1,.bool x1.2.2.1,aC x1.2.2.2.1,aC x1.2.2.2.2] λx3=>iX a1 a4 1 λx4=>eB x4 λx5=>if !x5 then AI (Sum.inr 3) else nL (ak x2) λx6=>sh (zi n (x6.1,x6.2.1,x6.2.2.1,x6.2.2.2.1,x6.2.2.2.2)) λx7=>if !x7 then AI (Sum.inr 3) else G a0 a1 a2 a3 (i64.wrap (a4+1)) else AI (Sum.inl ())
def pn:=lp tV
theorem B9 (n:Nat):pn (n+1)=tV (pn n) n:=rfl
def wH (n:Nat)(a0:Addr):M Int:=lS a0 0 λx0=>sh (An none xC [.bool false] (↑x0.len:Int) (↑x0.len:Int)) λx1=>gL a0 λx2=>lI a0 1 λx3=>sh (oi n (x2.1,x2.2) x3 x1) λx4=>lS a0 0 λx5=>sh (pn n a0 x1 x5 (↑x5.len:Int) 0) (dX (λx6=>gL a0 λx7=>sh (vB n (x7.1,x7.2)) λx8=>gL a0 λx9=>sh (vD n (x9.1,x9.2)) λx10=>sh (ph n a0 x8 x10 (↑x10.len:Int) 0) (dX (λx11=>gL a0 λx12=>sh (xg n (x12.1,x12.2)) λx13=>if x13 then AI 8 else gL a0 λj5=>sh (uF n (j5.1,j5.2)) λx15=>if decide (32<x15.1) then AI 5 else AI 0) (λx11=>AI x11))) (λx6=>AI x6))
def iD (n:Nat)(a0:Sl×Int):M Int:=nW ah [aC a0.1,vi a0.2] λx0=>lS (ak x0) 0 λx1=>if decide (4096<(↑x1.len:Int)) then AI 7 else lS (ak x0) 0 λx2=>if decide ((↑x2.len:Int)=0) then AI 3 else gL (ak x0) λx3=>sh (uk n (x3.1,x3.2)) λx4=>if !x4 then AI 3 else wH n (ak x0)
abbrev afD (n:Nat):dZ:=eN 16 [.agg [.sl,.int .i64]] [aw] (iD n)
abbrev aim:=L2 (bL 351) [(1,aG),(3,cB),(34,cB),(35,aw),(36,aw)] [] [(2,aw)] ([2,4,5]++rG 36 16) 0 .ret pn
abbrev ain:=L2 (bL 1407) [(1,aG),(6,cB),(55,cB),(56,aw),(57,aw)] [] [(2,aw)] ([2,7,8]++rG 57 14) 2 .ret ph
abbrev aio (n:Nat):List (iV Int):=[jN [0,1,1,1] [.code [1,1,1,1]] [(1,aG)] (wH n)]
def Vy (n:Nat):=ain.k TZp Tryz.f16 n (hT:=λm _=>.m1 (K14 m))
def Vz (n:Nat):=aim.k TZp Tryz.f16 n (hT:=λm _=>.m1 (K14 m))
def A5 (n:Nat):aH TZp (afD n):=bg Tryz.f16 (js:=aio n) (hT:=⟨.nil,K14 n,.nil,(.cc (Vz n) (.cc (Vy n) .nil)),(.cc .nil)⟩)
structure aP where
 jq:Addr->Addr->Int->θ->Addr->Sl->Int->Int->M Unit
 mH:Int->Addr->Addr->Addr->Addr->Addr->Addr->M Int
def jh (G:aP)(n:Nat)(x:ο)(a0:Int):M Int:=if rC pF x then sh (qj [aG,aG,aG,aG,aG,aG] x) λ(c:Addr×Addr×Addr×Addr×Addr×Addr)=>G.mH a0 c.1 c.2.1 c.2.2.1 c.2.2.2.1 c.2.2.2.2.1 c.2.2.2.2.2 else AS
abbrev uI:=jh
def iq (G:aP)(n:Nat)(a0 a1:Addr)(a2:Int)(a3:θ)(a4:Addr)(a5:Int)(a6:Sl)(a7 a8:Int):M Unit:=sh (nn a3) λx0=>lS a4 4 λx1=>sh (e9 .raw a0) λ(x2:ο)=>lS x0 4 λx3=>iX x3 a5 1 λx4=>eI x4 λx5=>sh (uw [some (a4.plus 4)] (uI G n x2 x5)) λx6=>sh (app true x1 1 au 1 [vi x6]) λx7=>sN (a4.plus 4) [aC x7] λx8=>G.jq a0 a1 a2 a3 a4 a6 a7 (i64.wrap (a8+1))
def qe (G:aP)(n:Nat)(a0 a1:Addr)(a2:Int)(a3:θ)(a4:Addr)(a5:Sl)(a6 a7:Int):M Unit:=if decide (a7<a6) then iX a5 a7 1 λx0=>eI x0 λx1=>sh (nn a3) λx2=>lI x2 0 λx3=>if decide (x3=10) then sh (nn a3) λx4=>lS a4 3 λx5=>sh (e9 .raw a0) λ(x6:ο)=>lS x4 3 λx7=>iX x7 x1 1 λx8=>eI x8 λx9=>sh (uw [some (a4.plus 3)] (jh G n x6 x9)) λx10=>sh (app true x5 1 au 1 [vi x10]) λx11=>sN (a4.plus 3) [aC x11] λx12=>iq G n a0 a1 a2 a3 a4 x1 a5 a6 a7 else iq G n a0 a1 a2 a3 a4 x1 a5 a6 a7 else AI ()
def tW (G:aP)(n:Nat)(a0:Int)(a1 a2 a3 a4 a5 a6:Addr):M Int:=eS a1 λx0=>iX x0 a0 1 λx1=>eI x1 λx2=>if decide (0<=x2) then eS a1 λx3=>iX x3 a0 1 λx4=>eI x4 λx5=>AI x5 else eI a2 λx3=>eS a1 λx4=>iX x4 a0 1 λx5=>sN x5 [vi x3] λx6=>eI a2 λx7=>sN a2 [vi (i64.wrap (x7+1))] λx8=>lS a3 0 λx9=>iX x9 a0 5 λx10=>sh (eE 15) λx11=>sh (nn (some x10)) λx12=>sh (nn (some x10)) λx13=>sh (nn (some x10)) λj5=>lI x12 0 λx15=>lT x13 1 λrA=>lB j5 2 λx17=>sh (iR (some (x11+13)) az [vi 0,.string (ofBytes []),.bool false,aI,aI]) λw4=>sN (ak w4) [vi x15,.string rA,.bool x17,aI,aI] λx19=>sh (e9 .ptr a4) λ(x20:θ)=>sh (eG n x20 a0) λx21=>sh (G.jq a5 a6 x3 (some x10) (ak w4) x21 (↑x21.len:Int) 0) λx22=>lS a6 0 λx23=>nL (ak w4) λx24=>iX x23 x3 5 λx25=>sN x25 [vi x24.1,.string x24.2.1,.bool x24.2.2.1,aC x24.2.2.2.1,aC x24.2.2.2.2] λx26=>AI x3
def aP.at:Nat->aP|0=>⟨λ_ _ _ _ _ _ _ _=>AS,λ_ _ _ _ _ _ _=>AS⟩|n+1=>⟨qe (aP.at n) n,tW (aP.at n) n⟩
def jq (n:Nat):=(aP.at n).jq
def mH (n:Nat):=(aP.at n).mH
def Dh (n:Nat):=jh (aP.at n) n
def Di (n:Nat):=uI (aP.at n) n
def A6 (n:Nat):=iq (aP.at n) n
abbrev Sa (n:Nat):dZ:=eN 35 [aw,aG,aG,aG,aG,aG,aG] [aw] (mH n)
abbrev aip:=L1 (bL 1407) [(5,aG),(6,aG),(9,aw),(10,vS),(11,aG),(49,cB),(50,aw),(51,aw)] [] ([13]++rG 51 38) 0 jq
abbrev C15 (n:Nat):List dZ:=Sa n::C14 n
abbrev aiq (n:Nat):List ru:=[dN 62 [aw] [aw] (Dh n), dN 76 [aw] [aw] (Di n)]
def Y2:=dR [(7,[0,1,2,4,5,6,8,9,10,3,7,11,12,13,14]),(12,[0,3,4,5,7,1,2,6,8,9,2010,11,12,13,14]),(13,[0,3,4,5,7,1,2,6,8,9,2010,11,12,13,14])]
abbrev VA (n:Nat):List (iV Unit):=[jN (bL 235903) [.ar 1,.code (bL 31103)] [(5,aG),(6,aG),(9,aw),(10,vS),(11,aG),(13,aw),(49,cB),(50,aw),(51,aw)] (A6 n)]
def jY (n:Nat):Prop:=aH TZp (Sa n)
def Y3 (n:Nat)(H:jY n):eY TZp (C15 n):=.cons H (K14 n)
def Y4 (n:Nat)(H:jY n):qO TZp (aiq n):=.cons (dj (.cons (oQ [aG,aG,aG,aG,aG,aG] (H)) .nil)) (.cons (dj (.cons (oQ [aG,aG,aG,aG,aG,aG] (H)) .nil)) .nil)
def VB (n:Nat)(H:Hy jY n):=aip.k TZp Tryz.f35 n (dr:=Y2) (jt:=VA) (hT:=λm hm=>⟨.nil,Y3 m ((H.d hm).s),(Y4 m ((H.d hm).s)),.nil,(.cc .nil)⟩)
def zk (n:Nat)(H:Hy jY n):aH TZp (Sa (n+1)):=bg Tryz.f35 (dr:=Y2) (hT:=⟨.nil,Y3 n (H.s),(Y4 n (H.s)),(.cc (VB n H) .nil),.nil⟩)
def uJ (n:Nat):jY n:=NT (Q:=jY) (gR Tryz.f35) zk n
def D8 (n:Nat):aH TZp (Sa n):=(uJ n)
def K15 (n:Nat):eY TZp (C15 n):=Y3 n (uJ n)
structure aO where
 fk:θ->θ->θ->ζ->Sl->Int->Int->M Unit
 fT:θ->θ->Int->M Unit
def fK (G:aO)(n:Nat)(a0 a1 a2:θ)(a3:ζ)(a4:Int)(a5:Sl)(a6 a7:Int):M Unit:=sh (nn a2) λx0=>lS x0 4 λx1=>iX x1 a4 1 λx2=>eI x2 λx3=>sh (G.fT a0 a1 x3) λx4=>G.fk a0 a1 a2 a3 a5 a6 (i64.wrap (a7+1))
def fL (G:aO)(n:Nat)(a0 a1 a2:θ)(a3:ζ)(a4:Int)(a5:Sl)(a6 a7:Int):M Unit:=sh (nn a2) λx0=>lI x0 0 λx1=>if decide (x1=10) then sh (nn a2) λx2=>lS x2 3 λx3=>iX x3 a4 1 λx4=>eI x4 λx5=>sh (G.fT a0 a1 x5) λx6=>sh (aD n a1 61) λx7=>fK G n a0 a1 a2 a3 a4 a5 a6 a7 else fK G n a0 a1 a2 a3 a4 a5 a6 a7
def nG (G:aO)(n:Nat)(a0 a1 a2:θ)(a3:ζ)(a4:Sl)(a5 a6:Int):M Unit:=if decide (a6<a5) then iX a4 a6 1 λx0=>eI x0 λx1=>if decide (0<a6) then sh (aD n a1 44) λx2=>fL G n a0 a1 a2 a3 x1 a4 a5 a6 else fL G n a0 a1 a2 a3 x1 a4 a5 a6 else AI ()
def fH (G:aO)(n:Nat)(a0 a1:θ)(a2:Int)(a3:θ)(a4:ζ):M Unit:=sh (kF a4 0) λx0=>sh (aD n a1 (↑x0.toNat:Int)) λx1=>sh (eG n a0 a2) λx2=>sh (G.fk a0 a1 a3 a4 x2 (↑x2.len:Int) 0) λx3=>sh (kF a4 1) λx4=>sh (aD n a1 (↑x4.toNat:Int)) λx5=>AI ()
def qf (G:aO)(n:Nat)(a0 a1:θ)(a2:Int):M Unit:=sh (nn a0) λx0=>lS (x0.plus 0) 0 λx1=>iX x1 a2 5 λx2=>sh (nn (some x2)) λx3=>lI x3 0 λx4=>if decide (x4=11) then sh (nn (some x2)) λx5=>lT x5 1 λx6=>sh (kK (ofBytes [33]) x6) λx7=>sh (kK x7 (ofBytes [40])) λx8=>sh (eP n a1 x8) λx9=>sh (nn (some x2)) λx10=>lS x10 4 λx11=>iX x11 0 1 λx12=>eI x12 λx13=>sh (G.fT a0 a1 x13) λj5=>sh (aD n a1 41) λx15=>AI () else sh (nn (some x2)) λx5=>lI x5 0 λx6=>if decide (x6<9) then sh (wE n (some x2)) λx7=>sh (eP n a1 x7) λx8=>AI () else sh (nn (some x2)) λx7=>lI x7 0 λx8=>if decide (x8=10) then sh (nn (some x2)) λx9=>lB x9 2 λx10=>if x10 then fH G n a0 a1 a2 (some x2) (ofBytes [60,62]) else fH G n a0 a1 a2 (some x2) (ofBytes [123,125]) else fH G n a0 a1 a2 (some x2) (ofBytes [91,93])
def aO.at:Nat->aO|0=>⟨λ_ _ _ _ _ _ _=>AS,λ_ _ _=>AS⟩|n+1=>⟨nG (aO.at n) n,qf (aO.at n) n⟩
def fk (n:Nat):=(aO.at n).fk
def fT (n:Nat):=(aO.at n).fT
def yj (n:Nat):=fL (aO.at n) n
def yl (n:Nat):=fK (aO.at n) n
def A7 (n:Nat):=fH (aO.at n) n
abbrev Y5 (n:Nat):dZ:=eN 25 [vS,vS,aw] [] (fT n)
abbrev air:=L1 (bL 351) [(0,vS),(1,vS),(6,vS),(7,pX),(67,cB),(68,aw),(69,aw)] [] ([8,9]++rG 69 37) 1 fk
abbrev C16 (n:Nat):List dZ:=Y5 n::C15 n
abbrev VC (n:Nat):List (iV Unit):=[jN (bL 157279) [.code (bL 222815),.code (bL 124511),.ar 2,.code (bL 7775)] [(0,vS),(1,vS),(6,vS),(7,pX),(9,aw),(67,cB),(68,aw),(69,aw)] (yj n), jN (bL 124511) [.ar 2,.code (bL 7775)] [(0,vS),(1,vS),(6,vS),(7,pX),(9,aw),(67,cB),(68,aw),(69,aw)] (yl n)]
abbrev ais (n:Nat):List (iV Unit):=[jN [0,1,1,1,1] [.code [1,1,1,1,1]] [(0,vS),(1,vS),(2,aw),(6,vS),(7,pX)] (A7 n)]
def jM (n:Nat):Prop:=aH TZp (Y5 n)
def Y6 (n:Nat)(H:jM n):eY TZp (C16 n):=.cons H (K15 n)
def VD (n:Nat)(H:Hy jM n):=air.k TZp Tryz.f25 n (jt:=VC) (hT:=λm hm=>.m3 (Y6 m ((H.d hm).s)) (.cc (.cc .nil)))
def wZ (n:Nat)(H:Hy jM n):aH TZp (Y5 (n+1)):=bg Tryz.f25 (js:=ais n) (hT:=⟨.nil,Y6 n (H.s),.nil,(.cc (VD n H) .nil),(.cc .nil)⟩)
def ym (n:Nat):jM n:=NT (Q:=jM) (gR Tryz.f25) wZ n
def K16 (n:Nat):eY TZp (C16 n):=Y6 n (ym n)
def tX (n:Nat)(x:ο)(a0:Int):M Int:=if rC pF x then sh (qj [aG,aG,aG,aG,aG,aG] x) λ(c:Addr×Addr×Addr×Addr×Addr×Addr)=>mH n a0 c.1 c.2.1 c.2.2.1 c.2.2.2.1 c.2.2.2.2.1 c.2.2.2.2.2 else AS
def sJ:uC (Addr->Addr->Addr->Addr->Int->Int->M Unit):=λG n a0 a1 a2 a3 a4 a5=>if decide (a5<a4) then eS a3 λx0=>iX x0 a5 1 λx1=>sN x1 [vi (-1)] λx2=>G a0 a1 a2 a3 a4 (i64.wrap (a5+1)) else AI ()
def n8:=lp sJ
theorem A8 (n:Nat):n8 (n+1)=sJ (n8 n) n:=rfl
def pT (n:Nat)(a0:Sl×Int):M (Sl×Int):=nW ah [aC a0.1,vi a0.2] λx0=>nW ah [aI,vi 0] λx1=>gL (ak x0) λx2=>sh (AR n (x2.1,x2.2)) λx3=>nW bB [.pointer none] λx4=>sN (ak x4) [.pointer x3] λx5=>lS (ak x0) 0 λx6=>sh (An none au [vi 0] (↑x6.len:Int) (↑x6.len:Int)) λx7=>nW aJ [aI] λx8=>sN (ak x8) [aC x7] λx9=>sh (e9 .sl (ak x8)) λ(x10:Sl)=>sh (n8 n (ak x0) (ak x1) (ak x4) (ak x8) (↑x10.len:Int) 0) λx11=>lS (ak x0) 0 λx12=>sh (An none az [vi 0,.string (ofBytes []),.bool false,aI,aI] (↑x12.len:Int) (↑x12.len:Int)) λx13=>nW ah [aI,vi 0] λj5=>sN (ak j5) [aC x13,vi 0] λx15=>nW au [vi 0] λrA=>sN (ak rA) [vi 0] λx17=>nW ql [Value.nilFunc] λw4=>sN (ak w4) [.func (Fn.func pF) #[] #[.pointer (some (ak x8)),.pointer (some (ak rA)),.pointer (some (ak x0)),.pointer (some (ak x4)),.pointer (some (ak w4)),.pointer (some (ak j5))]] λx19=>sh (e9 .raw (ak w4)) λ(x20:ο)=>lI (ak x0) 1 λx21=>sh (tX n x20 x21) λx22=>gL (ak j5) λx23=>sN (ak x1) [aC x23.1,vi x23.2] λx24=>gL (ak x1) λx25=>AI (x25.1,x25.2)
abbrev afE (n:Nat):dZ:=eN 17 [.agg [.sl,.int .i64]] [.agg [.sl,.int .i64]] (pT n)
abbrev ait:=L1 (bL 87) [(1,aG),(2,aG),(3,aG),(4,aG),(16,aw),(17,aw)] [] ([5]++rG 17 7) 0 n8
abbrev aiu (n:Nat):List ru:=[dN 30 [aw] [aw] (tX n)]
def Y7 (n:Nat):qO TZp (aiu n):=.cons (dj (.cons (oQ [aG,aG,aG,aG,aG,aG] (D8 n)) .nil)) .nil
def VE (n:Nat):=ait.k TZp Tryz.f17 n (hT:=λm _=>⟨.nil,K16 m,(Y7 m),.nil,.nil⟩)
def Gw (n:Nat):aH TZp (afE n):=bg Tryz.f17 (hT:=⟨.nil,K16 n,(Y7 n),(.cc (VE n) .nil),.nil⟩)
abbrev C17 (n:Nat):List dZ:=afD n::afE n::C16 n
def K17 (n:Nat):eY TZp (C17 n):=.cons (A5 n) (.cons (Gw n) (K16 n))
def xk (n:Nat)(a0:Sl×Int):M (Int×Bool):=nW ah [aC a0.1,vi a0.2] λx0=>gL (ak x0) λx1=>sh (iD n (x1.1,x1.2)) λx2=>if !decide (x2=0) then AI (0,false) else gL (ak x0) λx3=>sh (uF n (x3.1,x3.2)) λx4=>AI (x4.1,x4.2)
abbrev afF (n:Nat):dZ:=eN 40 [.agg [.sl,.int .i64]] [aw,jF] (xk n)
def Ib (n:Nat):aH TZp (afF n):=bg Tryz.f40 (hT:=.m1 (K17 n))
def pU (n:Nat)(a0:Sl×Int)(a1:Int):M ((Sl×Int)×Int):=nW ah [aC a0.1,vi a0.2] λx0=>nW ah [aI,vi 0] λx1=>gL (ak x0) λx2=>sh (iD n (x2.1,x2.2)) λx3=>if !decide (x3=0) then sN (ak x1) [aI,vi 0] λx4=>gL (ak x1) λx5=>AI ((x5.1,x5.2),3) else if decide (a1<0) then sN (ak x1) [aI,vi 0] λx4=>gL (ak x1) λx5=>AI ((x5.1,x5.2),2) else lS (ak x0) 0 λx4=>if decide ((↑x4.len:Int)<=a1) then sN (ak x1) [aI,vi 0] λx5=>gL (ak x1) λx6=>AI ((x6.1,x6.2),2) else lS (ak x0) 0 λx5=>sh (zg n (x5,a1)) λx6=>sN (ak x1) [aC x6.1,vi x6.2] λx7=>gL (ak x1) λx8=>AI ((x8.1,x8.2),0)
abbrev afG (n:Nat):dZ:=eN 13 [.agg [.sl,.int .i64],aw] [.agg [.sl,.int .i64],aw] (pU n)
def D9 (n:Nat):aH TZp (afG n):=bg Tryz.f13 (hT:=.m1 (K17 n))
def kA (n:Nat)(a0 a1:Sl×Int):M Bool:=nW ah [aC a0.1,vi a0.2] λx0=>nW ah [aC a1.1,vi a1.2] λx1=>gL (ak x0) λx2=>sh (iD n (x2.1,x2.2)) λx3=>if decide (x3=0) then gL (ak x1) λx4=>sh (iD n (x4.1,x4.2)) λx5=>AI (decide (x5=0)) else AI false
abbrev amE (n:Nat):dZ:=eN 7 [.agg [.sl,.int .i64],.agg [.sl,.int .i64]] [jF] (kA n)
def Ah (n:Nat):aH TZp (amE n):=bg Tryz.f7 (hT:=.m1 (K17 n))
def sK (n:Nat)(a0:Sl×Int):M ((Sl×Int)×Int):=nW ah [aC a0.1,vi a0.2] λx0=>nW ah [aI,vi 0] λx1=>gL (ak x0) λx2=>sh (iD n (x2.1,x2.2)) λx3=>if !decide (x3=0) then sN (ak x1) [aI,vi 0] λx4=>gL (ak x1) λx5=>AI ((x5.1,x5.2),3) else gL (ak x0) λx4=>sh (pT n (x4.1,x4.2)) λx5=>sN (ak x1) [aC x5.1,vi x5.2] λx6=>gL (ak x1) λx7=>AI ((x7.1,x7.2),0)
abbrev afH (n:Nat):dZ:=eN 37 [.agg [.sl,.int .i64]] [.agg [.sl,.int .i64],aw] (sK n)
def Gx (n:Nat):aH TZp (afH n):=bg Tryz.f37 (hT:=.m1 (K17 n))
abbrev C18 (n:Nat):List dZ:=afF n::afG n::afH n::C17 n
def K18 (n:Nat):eY TZp (C18 n):=.cons (Ib n) (.cons (D9 n) (.cons (Gx n) (K17 n)))
def uv (n:Nat)(a0:Sl×Int):M Int:=nW ah [aC a0.1,vi a0.2] λx0=>gL (ak x0) λx1=>sh (iD n (x1.1,x1.2)) λx2=>if !decide (x2=0) then AI 3 else gL (ak x0) λx3=>sh (xk n (x3.1,x3.2)) λx4=>if !x4.2 then AI 14 else AI 0
abbrev afI (n:Nat):dZ:=eN 22 [.agg [.sl,.int .i64]] [aw] (uv n)
def Fi (n:Nat):aH TZp (afI n):=bg Tryz.f22 (hT:=.m1 (K18 n))
def xM (n:Nat)(a0 a1:Addr):M Bool:=sh (eE 8) λx0=>gL a0 λx1=>gL a1 λx2=>sh (uw [some a1] (pT n (x1.1,x1.2))) λx3=>sh (pT n (x2.1,x2.2)) λx4=>sh (iR (some (x0+4)) ah [aI,vi 0]) λx5=>sh (iR (some (x0+5)) ah [aI,vi 0]) λx6=>sN (ak x5) [aC x3.1,vi x3.2] λx7=>sN (ak x6) [aC x4.1,vi x4.2] λx8=>lS (ak x5) 0 λx9=>lS (ak x6) 0 λx10=>sh (bj n x9 x10 (Value.func (Fn.func rP) #[] #[])) λx11=>AI x11
def wI (n:Nat)(a0 a1:Sl×Int):M Bool:=nW ah [aC a0.1,vi a0.2] λx0=>nW ah [aC a1.1,vi a1.2] λx1=>lS (ak x0) 0 λx2=>lS (ak x1) 0 λx3=>if !decide ((↑x2.len:Int)=(↑x3.len:Int)) then AI false else gL (ak x0) λx4=>sh (iD n (x4.1,x4.2)) λx5=>if !decide (x5=0) then AI false else gL (ak x1) λx6=>sh (iD n (x6.1,x6.2)) λx7=>if !decide (x7=0) then AI false else xM n (ak x0) (ak x1)
abbrev amG (n:Nat):dZ:=eN 8 [.agg [.sl,.int .i64],.agg [.sl,.int .i64]] [jF] (wI n)
def akX:=dR [(3,[0,2,3001]++rG 3 5)]
abbrev akY (n:Nat):List (iV Bool):=[jN [0,1,1] [.code [1,1,1]] [(2,aG),(3,aG)] (xM n)]
def Jx (n:Nat):aH TZp (amG n):=bg Tryz.f8 (dr:=akX) (js:=akY n) (hT:=.m3 (K18 n) (.cc .nil))
abbrev C19 (n:Nat):List dZ:=afI n::C18 n
def K19 (n:Nat):eY TZp (C19 n):=.cons (Fi n) (K18 n)
def wJ:uC (Addr->θ->Sl->Int->Int->M Unit):=λG n a0 a1 a2 a3 a4=>if decide (a4<a3) then iX a2 a4 1 λx0=>sN x0 [vi (-1)] λx1=>G a0 a1 a2 a3 (i64.wrap (a4+1)) else AI ()
def sL:=lp wJ
theorem Ea (n:Nat):sL (n+1)=wJ (sL n) n:=rfl
def oj (n:Nat)(a0:Sl×Int):M (ζ×Int):=nW ah [aC a0.1,vi a0.2] λx0=>gL (ak x0) λx1=>sh (uv n (x1.1,x1.2)) λx2=>if !decide (x2=0) then AI ((ofBytes []),x2) else gL (ak x0) λx3=>sh (AR n (x3.1,x3.2)) λx4=>lS (ak x0) 0 λx5=>sh (An none au [vi 0] (↑x5.len:Int) (↑x5.len:Int)) λx6=>sh (sL n (ak x0) x4 x6 (↑x6.len:Int) 0) λx7=>lI (ak x0) 1 λx8=>sh (fi n x4 x8 x6) λx9=>if decide (65536<x9) then AI ((ofBytes []),6) else nW fR [.pointer none,aI] λx10=>lI (ak x0) 1 λx11=>sh (fT n x4 (some (ak x10)) x11) λx12=>sh (ie n (some (ak x10))) λx13=>AI (x13,0)
abbrev afJ (n:Nat):dZ:=eN 10 [.agg [.sl,.int .i64]] [pX,aw] (oj n)
abbrev aiv:=L1 (bL 175) [(1,aG),(5,vS),(6,cB),(21,aw),(22,aw)] [] ([7]++rG 22 7) 0 sL
def VF (n:Nat):=aiv.k TZp Tryz.f10 n (hT:=λm _=>.m1 (K19 m))
def Eb (n:Nat):aH TZp (afJ n):=bg Tryz.f10 (hT:=.m2 (K19 n) (.cc (VF n) .nil))
abbrev C20 (n:Nat):List dZ:=afJ n::C19 n
def K20 (n:Nat):eY TZp (C20 n):=.cons (Eb n) (K19 n)
def vc:uC (Addr->Sl->Sl->Int->Int->M Sl):=λG n a0 a1 a2 a3 a4=>if decide (a4<a3) then iX a2 a4 1 λx0=>eI x0 λx1=>gL a0 λx2=>sh (pU n (x2.1,x2.2) x1) λx3=>nW ah [aI,vi 0] λx4=>sN (ak x4) [aC x3.1.1,vi x3.1.2] λx5=>gL (ak x4) λx6=>sh (oj n (x6.1,x6.2)) λx7=>sh (app false a1 1 eD 1 [.string x7.1]) λx8=>G a0 x8 a2 a3 (i64.wrap (a4+1)) else AI a1
def qy:=lp vc
theorem Dj (n:Nat):qy (n+1)=vc (qy n) n:=rfl
def wK (n:Nat)(a0:Sl×Int)(a1:Int×ζ×Bool×Sl×Sl):M Sl:=nW ah [aC a0.1,vi a0.2] λx0=>nW az [vi a1.1,.string a1.2.1,.bool a1.2.2.1,aC a1.2.2.2.1,aC a1.2.2.2.2] λx1=>lS (ak x1) 3 λx2=>sh (qy n (ak x0) pY x2 (↑x2.len:Int) 0) λx3=>AI x3
abbrev afK (n:Nat):dZ:=eN 53 [.agg [.sl,.int .i64],.agg [.int .i64,.str,.bool,.sl,.sl]] [cB] (wK n)
abbrev aiw:=L1 [0,1,0,1,1] [(2,aG),(5,cB),(13,cB),(14,aw),(15,aw)] [(5,cB)] ([5]++rG 7 5++rG 15 20) 0 qy
def VG (n:Nat):=aiw.k TZp Tryz.f53 n (hT:=λm _=>.m1 (K20 m))
def Jy (n:Nat):aH TZp (afK n):=bg Tryz.f53 (hT:=.m2 (K20 n) (.cc (VG n) .nil))
def zl:uC (Sl->Addr->Int->Addr->Int->Int->M Int):=λG n a0 a1 a2 a3 a4 a5=>lS a3 3 λx0=>if decide (a5<(↑x0.len:Int)) then sh (eE 13) λx1=>gL a1 λx2=>lS a3 3 λx3=>iX x3 a5 1 λx4=>eI x4 λx5=>sh (pU n (x2.1,x2.2) x5) λx6=>sh (iR (some (x1+10)) ah [aI,vi 0]) λx7=>sN (ak x7) [aC x6.1.1,vi x6.1.2] λx8=>gL (ak x7) λx9=>sh (oj n (x9.1,x9.2)) λx10=>if decide (x10.2=0) then iX a0 a2 2 λx11=>lT x11 1 λx12=>if mM x10.1 x12 then G a0 a1 a2 a3 a5 (i64.wrap (a5+1)) else G a0 a1 a2 a3 a4 (i64.wrap (a5+1)) else G a0 a1 a2 a3 a4 (i64.wrap (a5+1)) else AI a4
def uK:=lp zl
def zm:uC (Sl->Addr->Int->Int->M (Int⊕(Int×Bool))):=λG n a0 a1 a2 a3=>if decide (a3<(↑a0.len:Int)) then lS a1 0 λx0=>iX x0 a2 5 λx1=>nL x1 λx2=>nW az [vi 0,.string (ofBytes []),.bool false,aI,aI] λx3=>sN (ak x3) [vi x2.1,.string x2.2.1,.bool x2.2.2.1,aC x2.2.2.2.1,aC x2.2.2.2.2] λx4=>iX a0 a3 2 λx5=>lI x5 0 λx6=>iX a0 a3 2 λx7=>lT x7 1 λx8=>if !mM x8 (ofBytes []) then sh (uK n a0 a1 a3 (ak x3) (-1) 0) λx9=>if decide (x9<0) then AI (Sum.inr (0,false)) else lS (ak x3) 4 λx10=>if decide ((↑x10.len:Int)<=x9) then AI (Sum.inr (0,false)) else lS (ak x3) 4 λx11=>iX x11 x9 1 λx12=>eI x12 λx13=>G a0 a1 x13 (i64.wrap (a3+1)) else if decide (x6<0) then AI (Sum.inr (0,false)) else lS (ak x3) 4 λx9=>if decide ((↑x9.len:Int)<=x6) then AI (Sum.inr (0,false)) else lS (ak x3) 4 λx10=>iX x10 x6 1 λx11=>eI x11 λx12=>G a0 a1 x12 (i64.wrap (a3+1)) else AI (Sum.inl a2)
def uL:=lp zm
def xl (n:Nat)(a0:Sl×Int)(a1:Sl):M (Int×Bool):=nW ah [aC a0.1,vi a0.2] λx0=>lI (ak x0) 1 λx1=>sh (uL n a1 (ak x0) x1 0) (dX (λx2=>AI (x2,true)) (λx2=>AI (x2.1,x2.2)))
abbrev akZ (n:Nat):dZ:=eN 12 [.agg [.sl,.int .i64],cB] [aw,jF] (xl n)
abbrev aix:=L2 [0,1,0,1,1] [(1,cB),(2,aG),(6,aw),(7,aw)] [(6,aw)] [(4,aw),(5,jF)] (rG 4 11++rG 17 70) 0 .ret uL
abbrev aiy:=L1 (bL 185931) [(1,cB),(2,aG),(7,aw),(8,aG),(9,aw),(10,aw)] [(9,aw)] (rG 9 6++rG 39 34) 2 uK
def QF:=dR [(12,[1,3,0,2]++rG 4 9)]
def VH (n:Nat):=aiy.k TZp Tryz.f12 n (dr:=QF) (hT:=λm _=>.m1 (K20 m))
def VI (n:Nat):=aix.k TZp Tryz.f12 n (dr:=QF) (hT:=λm _=>.m2 (K20 m) (.cc (VH m) .nil))
def A9 (n:Nat):aH TZp (akZ n):=bg Tryz.f12 (dr:=QF) (hT:=.m2 (K20 n) (.cc (VI n) .nil))
abbrev C21 (n:Nat):List dZ:=afK n::C20 n
def K21 (n:Nat):eY TZp (C21 n):=.cons (Jy n) (K20 n)
def tY:uC (Sl->Sl->Int->Int->M (Unit⊕(Sl×Bool))):=λG n a0 a1 a2 a3=>if decide (a3<a2) then iX a0 a3 1 λx0=>iX a1 a3 1 λx1=>eT x0 λx2=>eT x1 λx3=>if !mM x2 x3 then AI (Sum.inr (pY,false)) else G a0 a1 a2 (i64.wrap (a3+1)) else AI (Sum.inl ())
def po:=lp tY
theorem Ca (n:Nat):po (n+1)=tY (po n) n:=rfl
def wL (n:Nat)(a0 a1 a2 a3:Addr):M (Sl×Bool):=gL a0 λx0=>nL a2 λx1=>gL a1 λx2=>nL a3 λx3=>sh (uw [some a1,some a3] (wK n (x0.1,x0.2) (x1.1,x1.2.1,x1.2.2.1,x1.2.2.2.1,x1.2.2.2.2))) λx4=>sh (wK n (x2.1,x2.2) (x3.1,x3.2.1,x3.2.2.1,x3.2.2.2.1,x3.2.2.2.2)) λx5=>sh (po n x4 x5 (↑x4.len:Int) 0) (dX (λx6=>AI (x4,true)) (λx6=>AI (x6.1,x6.2)))
def xm (n:Nat)(a0 a1:Sl×Int)(a2:Int×Int):M (Sl×Bool):=nW ah [aC a0.1,vi a0.2] λx0=>nW ah [aC a1.1,vi a1.2] λx1=>nW cG [vi a2.1,vi a2.2] λx2=>sh (eE 16) λx3=>lS (ak x0) 0 λx4=>lI (ak x2) 0 λx5=>iX x4 x5 5 λx6=>nL x6 λx7=>lS (ak x1) 0 λx8=>lI (ak x2) 1 λx9=>iX x8 x9 5 λx10=>nL x10 λx11=>sh (iR (some (x3+12)) az [vi 0,.string (ofBytes []),.bool false,aI,aI]) λx12=>sh (iR (some (x3+13)) az [vi 0,.string (ofBytes []),.bool false,aI,aI]) λx13=>sh (uw [some ((ak x1).plus 0),some ((ak x2).plus 1),some x10] (sU (ak x12) [vi x7.1,.string x7.2.1,.bool x7.2.2.1,aC x7.2.2.2.1,aC x7.2.2.2.2])) λj5=>sN (ak x13) [vi x11.1,.string x11.2.1,.bool x11.2.2.1,aC x11.2.2.2.1,aC x11.2.2.2.2] λx15=>lI (ak x12) 0 λrA=>lI (ak x13) 0 λx17=>if !decide (rA=x17) then AI (pY,false) else lT (ak x12) 1 λw4=>lT (ak x13) 1 λx19=>if !mM w4 x19 then AI (pY,false) else lB (ak x12) 2 λx20=>lB (ak x13) 2 λx21=>if !x20==x21 then AI (pY,false) else lS (ak x12) 4 λx22=>lS (ak x13) 4 λx23=>if !decide ((↑x22.len:Int)=(↑x23.len:Int)) then AI (pY,false) else wL n (ak x0) (ak x1) (ak x12) (ak x13)
abbrev afL (n:Nat):dZ:=eN 39 [.agg [.sl,.int .i64],.agg [.sl,.int .i64],.agg [.int .i64,.int .i64]] [cB,jF] (xm n)
abbrev aiz:=L2 (bL 175) [(10,cB),(11,cB),(60,aw),(61,aw)] [] [(6,cB),(7,jF)] ([6,7,12]++rG 61 13) 0 .ret po
def Y8:=dR [(1,[0,2,6,8,1,3,4,5,7]++rG 9 5++[12010008014,15]),(4,[0,1,3,4,5004002,5,6,7]),(8,[0,1,2,4,5,6,3,7,8])]
abbrev aiA (n:Nat):List (iV (Sl×Bool)):=[jN [0,1,1,1] [.code [1,1,1,1]] [(3,aG),(4,aG),(8,aG),(9,aG)] (wL n)]
def VJ (n:Nat):=aiz.k TZp Tryz.f39 n (dr:=Y8) (hT:=λm _=>.m1 (K21 m))
def Ic (n:Nat):aH TZp (afL n):=bg Tryz.f39 (dr:=Y8) (js:=aiA n) (hT:=⟨.nil,K21 n,.nil,(.cc (VJ n) .nil),(.cc .nil)⟩)
abbrev C22 (n:Nat):List dZ:=afL n::C21 n
def K22 (n:Nat):eY TZp (C22 n):=.cons (Ic n) (K21 n)
structure aW where
 jr:Sl->Addr->Addr->Addr->Sl->Sl->Int->Int->M (Unit⊕(Sl×Bool))
 mI:(Int×Int)->Sl->Addr->Addr->Addr->Addr->M (Sl×Bool)
def pz (G:aW)(n:Nat)(x:ο)(a0:Int×Int)(a1:Sl):M (Sl×Bool):=if rC pG x then sh (qj [aG,aG,aG,aG] x) λ(c:Addr×Addr×Addr×Addr)=>G.mI a0 a1 c.1 c.2.1 c.2.2.1 c.2.2.2 else AS
def iw (G:aW)(n:Nat)(a0:Sl)(a1 a2 a3:Addr)(a4:Sl)(a5 a6:Int)(a7:Addr)(a8:Sl)(a9 a10:Int):M (Unit⊕(Sl×Bool)):=sh (e9 .raw a2) λ(x0:ο)=>lS a1 0 λx1=>lI a3 1 λx2=>iX x1 x2 5 λx3=>lS x3 4 λx4=>iX x4 a5 1 λx5=>eI x5 λx6=>sh (bY [li,.str] a7) λ(x7:Int×ζ)=>sh (uw [some a2,some (a1.plus 0),some (a3.plus 1),some (x3.plus 4),some x5] (app false a0 2 aE 1 [vi x7.1,.string x7.2])) λx8=>sh (pz G n x0 (a6,x6) x8) λx9=>if x9.2 then AI (Sum.inr (x9.1,true)) else G.jr a0 a1 a2 a3 a4 a8 a9 (i64.wrap (a10+1))
def qg (G:aW)(n:Nat)(a0:Sl)(a1 a2 a3:Addr)(a4 a5:Sl)(a6 a7:Int):M (Unit⊕(Sl×Bool)):=if decide (a7<a6) then iX a5 a7 1 λx0=>eI x0 λx1=>nW aE [vi 0,.string (ofBytes [])] λx2=>sN (ak x2) [vi a7,.string (ofBytes [])] λx3=>if decide (0<(↑a4.len:Int)) then iX a4 a7 1 λx4=>eT x4 λx5=>sN (ak x2) [vi 0,.string x5] λx6=>iw G n a0 a1 a2 a3 a4 a7 x1 (ak x2) a5 a6 a7 else iw G n a0 a1 a2 a3 a4 a7 x1 (ak x2) a5 a6 a7 else AI (Sum.inl ())
def tZ (G:aW)(n:Nat)(a0:Int×Int)(a1:Sl)(a2 a3 a4 a5:Addr):M (Sl×Bool):=nW cG [vi a0.1,vi a0.2] λx0=>sh (e9 .mp a2) λ(x1:ν)=>sh (bY [li,li] (ak x0)) λ(x2:Int×Int)=>sh (zF cG (Ty.one .bool) false x1 (Value.agg #[vi x2.1,vi x2.2])) λ(x3:Bool×Bool)=>if x3.2 then AI (pY,false) else sh (e9 .mp a2) λ(x4:ν)=>sh (bY [li,li] (ak x0)) λ(x5:Int×Int)=>sh (FG cG x4 (Value.agg #[vi x5.1,vi x5.2]) (Value.bool true)) λx6=>gL a3 λx7=>gL a4 λx8=>sh (bY [li,li] (ak x0)) λ(x9:Int×Int)=>sh (xm n (x7.1,x7.2) (x8.1,x8.2) (x9.1,x9.2)) λx10=>if !x10.2 then nW aE [] λx11=>sh (MM a1 2) λx12=>sh (app false { a:=some (ak x11),len:=0,cap:=1 } 2 45 a1.len x12) λx13=>AI (x13,true) else lS a3 0 λx11=>lI (ak x0) 0 λx12=>iX x11 x12 5 λx13=>lS x13 4 λj5=>sh (G.jr a1 a4 a5 (ak x0) x10.1 j5 (↑j5.len:Int) 0) (dX (λx15=>AI (pY,false)) (λx15=>AI (x15.1,x15.2)))
def aW.at:Nat->aW|0=>⟨λ_ _ _ _ _ _ _ _=>AS,λ_ _ _ _ _ _=>AS⟩|n+1=>⟨qg (aW.at n) n,tZ (aW.at n) n⟩
def jr (n:Nat):=(aW.at n).jr
def mI (n:Nat):=(aW.at n).mI
def Dk (n:Nat):=pz (aW.at n) n
def Ba (n:Nat):=iw (aW.at n) n
abbrev Sb (n:Nat):dZ:=eN 38 [.agg [.int .i64,.int .i64],cB,aG,aG,aG,aG] [cB,jF] (mI n)
abbrev aiB:=L2 (bL 351) [(1,cB),(4,aG),(5,aG),(6,aG),(10,cB),(40,cB),(41,aw),(42,aw)] [] [(8,cB),(9,jF)] ([8,9]++rG 12 5++rG 42 39) 0 .ret jr
abbrev C23 (n:Nat):List dZ:=Sb n::C22 n
abbrev aiC (n:Nat):List ru:=[dN 58 [.agg [.int .i64,.int .i64],cB] [cB,jF] (Dk n)]
def Y9:=dR [(13,[1,2,4,9,13,0,3,5,6,7,8,10,11,12,14,15,12009006004001016]++rG 17 6)]
abbrev VK (n:Nat):List (iV (Unit⊕(Sl×Bool))):=[jN (bL 190047) [.code (bL 255583),.ar 1,.code (bL 7775)] [(1,cB),(4,aG),(5,aG),(6,aG),(10,cB),(12,aw),(13,aw),(14,aG),(40,cB),(41,aw),(42,aw)] (Ba n)]
def jZ (n:Nat):Prop:=aH TZp (Sb n)
def Za (n:Nat)(H:jZ n):eY TZp (C23 n):=.cons H (K22 n)
def Zb (n:Nat)(H:jZ n):qO TZp (aiC n):=.cons (dj (.cons (oQ [aG,aG,aG,aG] (H)) .nil)) .nil
def VL (n:Nat)(H:Hy jZ n):=aiB.k TZp Tryz.f38 n (dr:=Y9) (jt:=VK) (hT:=λm hm=>⟨.nil,Za m ((H.d hm).s),(Zb m ((H.d hm).s)),.nil,(.cc .nil)⟩)
def zo (n:Nat)(H:Hy jZ n):aH TZp (Sb (n+1)):=bg Tryz.f38 (dr:=Y9) (hT:=⟨.nil,Za n (H.s),(Zb n (H.s)),(.cc (VL n H) .nil),.nil⟩)
def uM (n:Nat):jZ n:=NT (Q:=jZ) (gR Tryz.f38) zo n
def Ec (n:Nat):aH TZp (Sb n):=(uM n)
def K23 (n:Nat):eY TZp (C23 n):=Za n (uM n)
def ua (n:Nat)(x:ο)(a0:Int×Int)(a1:Sl):M (Sl×Bool):=if rC pG x then sh (qj [aG,aG,aG,aG] x) λ(c:Addr×Addr×Addr×Addr)=>mI n a0 a1 c.1 c.2.1 c.2.2.1 c.2.2.2 else AS
def qL (n:Nat)(a0 a1:Addr):M (Sl×Bool×Bool):=sh (DE cG) λx0=>nW oS [.map none] λx1=>sN (ak x1) [.map (some x0)] λx2=>nW eV [Value.nilFunc] λx3=>sN (ak x3) [.func (Fn.func pG) #[] #[.pointer (some (ak x1)),.pointer (some a0),.pointer (some a1),.pointer (some (ak x3))]] λx4=>sh (e9 .raw (ak x3)) λ(x5:ο)=>lI a0 1 λx6=>lI a1 1 λx7=>sh (ua n x5 (x6,x7) pY) λx8=>AI (x8.1,x8.2,true)
def pV (n:Nat)(a0 a1:Sl×Int):M (Sl×Bool×Bool):=nW ah [aC a0.1,vi a0.2] λx0=>nW ah [aC a1.1,vi a1.2] λx1=>gL (ak x0) λx2=>sh (sK n (x2.1,x2.2)) λx3=>nW ah [aI,vi 0] λx4=>sN (ak x4) [aC x3.1.1,vi x3.1.2] λx5=>gL (ak x1) λx6=>sh (sK n (x6.1,x6.2)) λx7=>nW ah [aI,vi 0] λx8=>sN (ak x8) [aC x7.1.1,vi x7.1.2] λx9=>if !decide (x3.2=0) then AI (pY,false,false) else if !decide (x7.2=0) then AI (pY,false,false) else qL n (ak x4) (ak x8)
abbrev afM (n:Nat):dZ:=eN 21 [.agg [.sl,.int .i64],.agg [.sl,.int .i64]] [cB,jF,jF] (pV n)
abbrev aiD (n:Nat):List ru:=[dN 34 [.agg [.int .i64,.int .i64],cB] [cB,jF] (ua n)]
abbrev aiE (n:Nat):List (iV (Sl×Bool×Bool)):=[jN [0,1,1,1,1] [.code [1,1,1,1,1]] [(7,aG),(9,aG)] (qL n)]
def aiF (n:Nat):qO TZp (aiD n):=.cons (dj (.cons (oQ [aG,aG,aG,aG] (Ec n)) .nil)) .nil
def Gy (n:Nat):aH TZp (afM n):=bg Tryz.f21 (js:=aiE n) (hT:=⟨.nil,K23 n,(aiF n),.nil,(.cc .nil)⟩)
abbrev C24 (n:Nat):List dZ:=afM n::C23 n
def K24 (n:Nat):eY TZp (C24 n):=.cons (Gy n) (K23 n)
def ji (n:Nat)(a0 a1:Sl×Int):M Bool:=nW ah [aC a0.1,vi a0.2] λx0=>nW ah [aC a1.1,vi a1.2] λx1=>gL (ak x0) λx2=>gL (ak x1) λx3=>sh (pV n (x2.1,x2.2) (x3.1,x3.2)) λx4=>if x4.2.2 then AI !x4.2.1 else AI false
abbrev ak0 (n:Nat):dZ:=eN 9 [.agg [.sl,.int .i64],.agg [.sl,.int .i64]] [jF] (ji n)
def Bb (n:Nat):aH TZp (ak0 n):=bg Tryz.f9 (hT:=.m1 (K24 n))
def Bc (n:Nat)(a0 a1:Sl×Int):M (Sl×Bool):=nW ah [aC a0.1,vi a0.2] λx0=>nW ah [aC a1.1,vi a1.2] λx1=>gL (ak x0) λx2=>gL (ak x1) λx3=>sh (pV n (x2.1,x2.2) (x3.1,x3.2)) λx4=>AI (x4.1,x4.2.1)
abbrev afN (n:Nat):dZ:=eN 11 [.agg [.sl,.int .i64],.agg [.sl,.int .i64]] [cB,jF] (Bc n)
def Be (n:Nat):aH TZp (afN n):=bg Tryz.f11 (hT:=.m1 (K24 n))
abbrev C25 (n:Nat):List dZ:=ak0 n::afN n::C24 n
def K25 (n:Nat):eY TZp (C25 n):=.cons (Bb n) (.cons (Be n) (K24 n))
def wM (n:Nat):M Bool:=nW au [vi 1,vi 2] λx0=>sh (iz n (ofBytes [49])) λx1=>sh (iz n (ofBytes [49])) λx2=>nW az [vi 9,.string (ofBytes []),.bool false,aI,.slice (some (ak x0)) 2 3,vi x1.1,.string x1.2.1,.bool x1.2.2.1,aC x1.2.2.2.1,aC x1.2.2.2.2,vi x2.1,.string x2.2.1,.bool x2.2.2.1,aC x2.2.2.2.1,aC x2.2.2.2.2] λx3=>nW ah [aI,vi 0] λx4=>sN (ak x4) [.slice (some (ak x3)) 3 4,vi 0] λx5=>nW au [vi 1,vi 1] λx6=>sh (iz n (ofBytes [49])) λx7=>nW az [vi 9,.string (ofBytes []),.bool false,aI,.slice (some (ak x6)) 2 3,vi x7.1,.string x7.2.1,.bool x7.2.2.1,aC x7.2.2.2.1,aC x7.2.2.2.2] λx8=>nW ah [aI,vi 0] λx9=>sN (ak x9) [.slice (some (ak x8)) 2 3,vi 0] λx10=>nW au [vi 1,vi 2] λx11=>sh (iz n (ofBytes [49])) λx12=>sh (iz n (ofBytes [53])) λx13=>nW az [vi 9,.string (ofBytes []),.bool false,aI,.slice (some (ak x11)) 2 3,vi x12.1,.string x12.2.1,.bool x12.2.2.1,aC x12.2.2.2.1,aC x12.2.2.2.2,vi x13.1,.string x13.2.1,.bool x13.2.2.1,aC x13.2.2.2.1,aC x13.2.2.2.2] λj5=>nW ah [aI,vi 0] λx15=>sN (ak x15) [.slice (some (ak j5)) 3 4,vi 0] λrA=>nW au [vi 0] λx17=>nW az [vi 9,.string (ofBytes []),.bool false,aI,.slice (some (ak x17)) 1 2] λw4=>nW ah [aI,vi 0] λx19=>sN (ak x19) [.slice (some (ak w4)) 1 2,vi 0] λx20=>nW au [vi 1] λx21=>nW au [vi 0] λx22=>nW az [vi 9,.string (ofBytes []),.bool false,aI,.slice (some (ak x21)) 1 2,vi 9,.string (ofBytes []),.bool false,aI,.slice (some (ak x22)) 1 2] λx23=>nW ah [aI,vi 0] λx24=>sN (ak x24) [.slice (some (ak x23)) 2 3,vi 0] λx25=>gL (ak x4) λx26=>gL (ak x15) λx27=>sh (Bc n (x26.1,x26.2) (x27.1,x27.2)) λx28=>gL (ak x4) λx29=>gL (ak x9) λx30=>sh (ji n (x29.1,x29.2) (x30.1,x30.2)) λx31=>if x31 then gL (ak x4) λx32=>gL (ak x15) λx33=>sh (ji n (x32.1,x32.2) (x33.1,x33.2)) λx34=>if !x34 then gL (ak x19) λx35=>gL (ak x24) λx36=>sh (ji n (x35.1,x35.2) (x36.1,x36.2)) λx37=>if x37 then gL (ak x19) λx38=>gL (ak x4) λx39=>sh (ji n (x38.1,x38.2) (x39.1,x39.2)) λx40=>if !x40 then if x28.2 then nW aE [vi 1,.string (ofBytes [])] λx41=>sh (tA n x28.1 { a:=some (ak x41),len:=1,cap:=2 }) λx42=>AI x42 else AI false else AI false else AI false else AI false else AI false
abbrev amL (n:Nat):dZ:=eN 5 [] [jF] (wM n)
def Ai (n:Nat):aH TZp (amL n):=bg Tryz.f5 (hT:=.m1 (K25 n))
end Go.Sh
