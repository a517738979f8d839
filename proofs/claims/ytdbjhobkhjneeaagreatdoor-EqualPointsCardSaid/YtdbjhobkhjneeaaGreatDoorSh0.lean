
import Derived.Test.YtdbjhobkhjneeaaGreatDoorShLib
set_option linter.all false
set_option maxRecDepth 100000
set_option maxHeartbeats 0
namespace Go.Sh
open Go Go.Ago Go.Proofs Go.IntKind
noncomputable abbrev TZp:=Tryz.prog
abbrev J11:=Int×Int×Int×Int×Int×Int×Int×Int×Int×Int×Int
abbrev C0 (n:Nat):List dV:=[eN 96 [.one (.str),.one (.str)] [.one (.str),.one (.bool)] (strings_CutPrefix n),eN 161 [.one (.int .u64)] [.one (.int .i64)] (da n),eN 162 [.one (.int .u64),.one (.int .i64)] [.one (.str)] (gE n),eN 67 [.one (.ptr)] [.one (.ptr)] (sd n),eN 100 [.one (.str),.one (.int .i64),.one (.int .i64)] [.one (.int .u64),.one (.raw)] (fP n),eN 164 [.one (.str),.one (.int .i64)] [.one (.str)] (strings_Repeat n),eN 136 [.one (.f64)] [.one (.int .u64)] (bX n),eN 91 [.one (.str),.one (.str)] [.one (.str)] (strings_TrimPrefix n),eN 171 [.one (.str),.one (.str)] [.one (.int .i64)] (ea n),eN 140 [.one (.str),.one (.str)] [.one (.str)] (gZ n),eN 155 [.one (.str),.one (.str)] [.one (.int .i64)] (jF n),eN 86 [.one (.int .u64)] [.one (.int .i64)] (gf n),eN 89 [.one (.str),.one (.int .u8)] [.one (.int .i64)] (strings_IndexByte n),eN 90 [.one (.str)] [.one (.int .i64),.one (.raw)] (strconv_Atoi n),eN 59 [.one (.str)] [.one (.int .i64),.one (.int .i64)] (qJ n),eN 125 [.one (.int .i64)] [.one (.str)] (strconv_Itoa n),eN 127 [.one (.int .u64)] [.one (.f64)] (bA n)]
def K0 (n:Nat):eY TZp (C0 n):=.cons (AJ n) (.cons (uW n) (.cons (yh n) (.cons (Ec n) (.cons (AK n) (.cons (Eb n) (.cons (BU n) (.cons (zY n) (.cons (pP n) (.cons (AH n) (.cons (yX n) (.cons (CU n) (.cons (AG n) (.cons (strconv_Atoi_ok n) (.cons (CT n) (.cons (Gi n) (.cons (yg n) .nil))))))))))))))))
def qW:uI (Addr->Bool->Sl->Int->Int->Sl->Int->Int->Sl->Int->Int->M Bool):=λG n a0 a1 a2 a3 a4 a5 a6 a7 a8 a9 a10=>if decide (a10<a9) then iX a8 a10 1 λx0=>eI x0 λx1=>if a1 then if decide (0<=x1) then lS a0 0 λx2=>G a0 (decide (x1<(↑x2.len:Int))) a2 a3 a4 a5 a6 a7 a8 a9 (i64.wrap (a10+1)) else G a0 false a2 a3 a4 a5 a6 a7 a8 a9 (i64.wrap (a10+1)) else G a0 false a2 a3 a4 a5 a6 a7 a8 a9 (i64.wrap (a10+1)) else AI a1
def mh:=lp qW
theorem zZ (n:Nat):mh (n+1)=qW (mh n) n:=rfl
def j7:uI (Addr->Bool->Sl->Int->Int->Sl->Int->Int->M Bool):=λG n a0 a1 a2 a3 a4 a5 a6 a7=>if decide (a7<a6) then iX a5 a7 1 λx0=>eS x0 λx1=>sh (mh n a0 a1 a2 a3 a4 a5 a6 a7 x1 (↑x1.len:Int) 0) λx2=>G a0 x2 a2 a3 a4 a5 a6 (i64.wrap (a7+1)) else AI a1
def mi:=lp j7
theorem oA (n:Nat):mi (n+1)=j7 (mi n) n:=rfl
def qX:uI (Addr->Bool->Sl->Int->Int->M Bool):=λG n a0 a1 a2 a3 a4=>if decide (a4<a3) then iX a2 a4 5 λx0=>nL x0 λx1=>nW ar [vi 0,.string (ofBytes []),.bool false,aI,aI] λx2=>sN (ak x2) [vi x1.1,.string x1.2.1,.bool x1.2.2.1,aC x1.2.2.2.1,aC x1.2.2.2.2] λx3=>lS (ak x2) 3 λx4=>lS (ak x2) 4 λx5=>nW aJ [aC x4,aC x5] λx6=>sh (mi n a0 a1 a2 a3 a4 { a:=some (ak x6),len:=2,cap:=3 } (↑2:Int) 0) λx7=>G a0 x7 a2 a3 (i64.wrap (a4+1)) else AI a1
def mj:=lp qX
theorem Aa (n:Nat):mj (n+1)=qX (mj n) n:=rfl
def ml (n:Nat)(a0:Addr)(a1:Bool):M Bool:=lS a0 0 λx0=>sh (mj n a0 a1 x0 (↑x0.len:Int) 0) λx1=>AI x1
def uv (n:Nat)(a0:Sl×Int):M Bool:=nW ah [aC a0.1,vi a0.2] λx0=>lI (ak x0) 1 λx1=>if decide (0<=x1) then lI (ak x0) 1 λx2=>lS (ak x0) 0 λx3=>ml n (ak x0) (decide (x2<(↑x3.len:Int))) else ml n (ak x0) false
abbrev ae3 (n:Nat):dV:=eN 28 [.agg [.sl,.int .i64]] [jE] (uv n)
abbrev agY:=L1 [0,1,0,1,1] [(1,aG),(3,jE),(22,cp),(23,az),(24,az)] [(3,jE)] ([3,5,7,9]++rG 24 35) 0 mj
abbrev agZ:=L1 (bL 11467) [(1,aG),(3,jE),(22,cp),(23,az),(24,az),(32,cp),(33,az),(34,az)] [(3,jE)] ([3,7,9]++rG 34 24) 2 mi
abbrev ag0:=L1 (bL 2936011) [(1,aG),(3,jE),(22,cp),(23,az),(24,az),(32,cp),(33,az),(34,az),(38,cp),(39,az),(40,az)] [(3,jE)] ([3,9]++rG 40 17) 4 mh
abbrev ag1 (n:Nat):List (iU Bool):=[jN [0,0,1,1] [.code [1,0,1,1],.code [1,1,1]] [(1,aG),(3,jE)] (ml n)]
def UI (n:Nat):=ag0.k TZp Tryz.f28 n (hT:=λm _=>.m1 (K0 m))
def UJ (n:Nat):=agZ.k TZp Tryz.f28 n (hT:=λm _=>.m2 (K0 m) (.cc (UI m) .nil))
def UK (n:Nat):=agY.k TZp Tryz.f28 n (hT:=λm _=>.m2 (K0 m) (.cc (UJ m) .nil))
def E9 (n:Nat):aH TZp (ae3 n):=bf Tryz.f28 (js:=ag1 n) (hT:=⟨.nil,K0 n,.nil,(.cc (UK n) .nil),(.cc .nil)⟩)
structure aP where
 gq:Int->Addr->Addr->Sl->Int->Int->M Unit
 gu:Addr->Sl->Int->Int->M Unit
 jx:Int->Addr->Addr->Addr->M Unit
def iM (G:aP)(n:Nat)(x:ο)(a0:Int):M Unit:=if rN oL x then sh (qq [aG,aG,aG] x) λ(c:Addr×Addr×Addr)=>G.jx a0 c.1 c.2.1 c.2.2 else AS
abbrev oB:=iM
def oW (G:aP)(n:Nat)(a0:Int)(a1 a2:Addr)(a3:Sl)(a4 a5:Int):M Unit:=if decide (a5<a4) then iX a3 a5 1 λx0=>eI x0 λx1=>sh (eU .raw a2) λ(x2:ο)=>sh (iM G n x2 x1) λx3=>G.gq a0 a1 a2 a3 a4 (i64.wrap (a5+1)) else AI ()
def oX (G:aP)(n:Nat)(a0:Addr)(a1:Sl)(a2 a3:Int):M Unit:=if decide (a3<a2) then iX a1 a3 1 λx0=>eI x0 λx1=>sh (eU .raw a0) λ(x2:ο)=>sh (oB G n x2 x1) λx3=>G.gu a0 a1 a2 (i64.wrap (a3+1)) else AI ()
def se (G:aP)(n:Nat)(a0:Int)(a1 a2 a3:Addr):M Unit:=eS a1 λx0=>iX x0 a0 1 λx1=>eB x1 λx2=>if x2 then AI () else eS a1 λx3=>iX x3 a0 1 λx4=>sN x4 [.bool true] λx5=>lS a2 0 λx6=>iX x6 a0 5 λx7=>lS x7 3 λx8=>sh (G.gq a0 a2 a3 x8 (↑x8.len:Int) 0) λx9=>lS a2 0 λx10=>iX x10 a0 5 λx11=>lS x11 4 λx12=>sh (G.gu a3 x12 (↑x12.len:Int) 0) λx13=>AI ()
def aP.at:Nat->aP|0=>⟨λ_ _ _ _ _ _=>AS,λ_ _ _ _=>AS,λ_ _ _ _=>AS⟩|n+1=>⟨oW (aP.at n) n,oX (aP.at n) n,se (aP.at n) n⟩
def gq (n:Nat):=(aP.at n).gq
theorem yi (n:Nat):gq (n+1)=oW (aP.at n) n:=rfl
def gu (n:Nat):=(aP.at n).gu
theorem yj (n:Nat):gu (n+1)=oX (aP.at n) n:=rfl
def jx (n:Nat):=(aP.at n).jx
theorem AL (n:Nat):jx (n+1)=se (aP.at n) n:=rfl
def BV (n:Nat):=iM (aP.at n) n
def BW (n:Nat):=oB (aP.at n) n
abbrev Su (n:Nat):dV:=eN 45 [az,aG,aG,aG] [] (jx n)
abbrev ag2:=L1 [0,1,0,1,1] [(0,az),(2,aG),(3,aG),(21,cp),(22,az),(23,az)] [] ([6]++rG 23 8) 0 gq
abbrev ag3:=L1 [0,1,1,1,1] [(3,aG),(36,cp),(37,az),(38,az)] [] ([8]++rG 38 8) 2 gu
abbrev C1 (n:Nat):List dV:=Su n::C0 n
abbrev ag4 (n:Nat):List rF:=[dN 27 [az] [] (BV n), dN 42 [az] [] (BW n)]
def hY (n:Nat):Prop:=aH TZp (Su n)
def acF (n:Nat)(H:hY n):eY TZp (C1 n):=.cons H (K0 n)
def QC (n:Nat)(H:hY n):qU TZp (ag4 n):=.cons (di (.cons (oT [aG,aG,aG] (H)) .nil)) (.cons (di (.cons (oT [aG,aG,aG] (H)) .nil)) .nil)
def UL (n:Nat)(H:Hy hY n):=ag2.k TZp Tryz.f45 n (hT:=λm hm=>⟨.nil,acF m ((H.d hm).s),(QC m ((H.d hm).s)),.nil,.nil⟩)
def UM (n:Nat)(H:Hy hY n):=ag3.k TZp Tryz.f45 n (hT:=λm hm=>⟨.nil,acF m ((H.d hm).s),(QC m ((H.d hm).s)),.nil,.nil⟩)
def yl (n:Nat)(H:Hy hY n):aH TZp (Su (n+1)):=bf Tryz.f45 (hT:=⟨.nil,acF n (H.s),(QC n (H.s)),(.cc (UL n H) (.cc (UM n H) .nil)),.nil⟩)
def tE (n:Nat):hY n:=Oc (Q:=hY) (gM Tryz.f45) yl n
def CV (n:Nat):aH TZp (Su n):=(tE n)
def K1 (n:Nat):eY TZp (C1 n):=acF n (tE n)
def nR:uI (ζ->Int->Int->M (Unit⊕Bool)):=λG n a0 a1 a2=>if decide (a2<a1) then sh (kE a0 a2) λx0=>if decide (97<=(↑x0.toNat:Int)) then if decide ((↑x0.toNat:Int)<=122) then G a0 a1 (i64.wrap (a2+1)) else if decide (65<=(↑x0.toNat:Int)) then if decide ((↑x0.toNat:Int)<=90) then G a0 a1 (i64.wrap (a2+1)) else if decide (48<=(↑x0.toNat:Int)) then if decide ((↑x0.toNat:Int)<=57) then G a0 a1 (i64.wrap (a2+1)) else if decide ((↑x0.toNat:Int)=95) then G a0 a1 (i64.wrap (a2+1)) else if decide ((↑x0.toNat:Int)=45) then G a0 a1 (i64.wrap (a2+1)) else if decide ((↑x0.toNat:Int)=46) then G a0 a1 (i64.wrap (a2+1)) else if !decide ((↑x0.toNat:Int)=58) then AI (Sum.inr false) else G a0 a1 (i64.wrap (a2+1)) else if decide ((↑x0.toNat:Int)=95) then G a0 a1 (i64.wrap (a2+1)) else if decide ((↑x0.toNat:Int)=45) then G a0 a1 (i64.wrap (a2+1)) else if decide ((↑x0.toNat:Int)=46) then G a0 a1 (i64.wrap (a2+1)) else if !decide ((↑x0.toNat:Int)=58) then AI (Sum.inr false) else G a0 a1 (i64.wrap (a2+1)) else if decide (48<=(↑x0.toNat:Int)) then if decide ((↑x0.toNat:Int)<=57) then G a0 a1 (i64.wrap (a2+1)) else if decide ((↑x0.toNat:Int)=95) then G a0 a1 (i64.wrap (a2+1)) else if decide ((↑x0.toNat:Int)=45) then G a0 a1 (i64.wrap (a2+1)) else if decide ((↑x0.toNat:Int)=46) then G a0 a1 (i64.wrap (a2+1)) else if !decide ((↑x0.toNat:Int)=58) then AI (Sum.inr false) else G a0 a1 (i64.wrap (a2+1)) else if decide ((↑x0.toNat:Int)=95) then G a0 a1 (i64.wrap (a2+1)) else if decide ((↑x0.toNat:Int)=45) then G a0 a1 (i64.wrap (a2+1)) else if decide ((↑x0.toNat:Int)=46) then G a0 a1 (i64.wrap (a2+1)) else if !decide ((↑x0.toNat:Int)=58) then AI (Sum.inr false) else G a0 a1 (i64.wrap (a2+1)) else if decide (65<=(↑x0.toNat:Int)) then if decide ((↑x0.toNat:Int)<=90) then G a0 a1 (i64.wrap (a2+1)) else if decide (48<=(↑x0.toNat:Int)) then if decide ((↑x0.toNat:Int)<=57) then G a0 a1 (i64.wrap (a2+1)) else if decide ((↑x0.toNat:Int)=95) then G a0 a1 (i64.wrap (a2+1)) else if decide ((↑x0.toNat:Int)=45) then G a0 a1 (i64.wrap (a2+1)) else if decide ((↑x0.toNat:Int)=46) then G a0 a1 (i64.wrap (a2+1)) else if !decide ((↑x0.toNat:Int)=58) then AI (Sum.inr false) else G a0 a1 (i64.wrap (a2+1)) else if decide ((↑x0.toNat:Int)=95) then G a0 a1 (i64.wrap (a2+1)) else if decide ((↑x0.toNat:Int)=45) then G a0 a1 (i64.wrap (a2+1)) else if decide ((↑x0.toNat:Int)=46) then G a0 a1 (i64.wrap (a2+1)) else if !decide ((↑x0.toNat:Int)=58) then AI (Sum.inr false) else G a0 a1 (i64.wrap (a2+1)) else if decide (48<=(↑x0.toNat:Int)) then if decide ((↑x0.toNat:Int)<=57) then G a0 a1 (i64.wrap (a2+1)) else if decide ((↑x0.toNat:Int)=95) then G a0 a1 (i64.wrap (a2+1)) else if decide ((↑x0.toNat:Int)=45) then G a0 a1 (i64.wrap (a2+1)) else if decide ((↑x0.toNat:Int)=46) then G a0 a1 (i64.wrap (a2+1)) else if !decide ((↑x0.toNat:Int)=58) then AI (Sum.inr false) else G a0 a1 (i64.wrap (a2+1)) else if decide ((↑x0.toNat:Int)=95) then G a0 a1 (i64.wrap (a2+1)) else if decide ((↑x0.toNat:Int)=45) then G a0 a1 (i64.wrap (a2+1)) else if decide ((↑x0.toNat:Int)=46) then G a0 a1 (i64.wrap (a2+1)) else if !decide ((↑x0.toNat:Int)=58) then AI (Sum.inr false) else G a0 a1 (i64.wrap (a2+1)) else AI (Sum.inl ())
def ou:=lp nR
def yY (n:Nat)(a0:ζ):M Bool:=sh (ou n a0 (↑a0.size:Int) 0) (dU (λx0=>if decide (1<=(↑a0.size:Int)) then AI (decide ((↑a0.size:Int)<=64)) else AI false) (λx0=>AI x0))
abbrev ae4 (n:Nat):dV:=eN 46 [qe] [jE] (yY n)
abbrev ag5:=L2 [0,1,0,1] [(0,qe),(6,az),(7,az)] [] [(2,jE)] ([2,3,4]++rG 7 46) 0 .ret ou
def UN (n:Nat):=ag5.k TZp Tryz.f46 n (hT:=λm _=>.m1 (K1 m))
def Jt (n:Nat):aH TZp (ae4 n):=bf Tryz.f46 (hT:=.m2 (K1 n) (.cc (UN n) .nil))
def sf:uI (Sl->M Sl):=λG n a0=>if decide (0<(↑a0.len:Int)) then iX a0 (i64.wrap ((↑a0.len:Int)-1)) 1 λx0=>sh (eU (.int IntKind.u8) x0) λ(x1:Int)=>if decide (x1=0) then sh (mY a0 0 (i64.wrap ((↑a0.len:Int)-1)) gT 1) λx2=>G x2 else AI a0 else AI a0
def kQ:=lp sf
theorem AM (n:Nat):kQ (n+1)=sf (kQ n) n:=rfl
def yZ (n:Nat)(a0:Sl):M Sl:=sh (kQ n a0) λx0=>AI x0
abbrev ae5 (n:Nat):dV:=eN 88 [cp] [cp] (yZ n)
abbrev ag6:=L1 [0,0,1] [(0,cp)] [(0,cp)] ([0]++rG 3 17) 0 kQ
def UO (n:Nat):=ag6.k TZp Tryz.f88 n (hT:=λm _=>.m1 (K1 m))
def Gj (n:Nat):aH TZp (ae5 n):=bf Tryz.f88 (hT:=.m2 (K1 n) (.cc (UO n) .nil))
def sq:uI (Bool->Sl->Int->Addr->M (Sl×Int)):=λG n a0 a1 a2 a3=>if decide (0<(↑a1.len:Int)) then iX a1 (i64.wrap ((↑a1.len:Int)-1)) 1 λx0=>sh (eU (.int IntKind.u8) x0) λ(x1:Int)=>if decide (x1=0) then sh (mY a1 0 (i64.wrap ((↑a1.len:Int)-1)) gT 1) λx2=>G a0 x2 (i64.wrap (a2+1)) a3 else AI (a1,a2) else AI (a1,a2)
def nS:=lp sq
theorem AN (n:Nat):nS (n+1)=sq (nS n) n:=rfl
def sr:uI (Bool->Sl->Int->Addr->M Sl):=λG n a0 a1 a2 a3=>if decide (0<(↑a1.len:Int)) then iX a1 0 1 λx0=>sh (eU (.int IntKind.u8) x0) λ(x1:Int)=>if decide (x1=0) then sh (mY a1 1 (↑a1.len:Int) gT 1) λx2=>G a0 x2 a2 a3 else AI a1 else AI a1
def nT:=lp sr
theorem AO (n:Nat):nT (n+1)=sr (nT n) n:=rfl
def vD (n:Nat)(a0:Bool)(a1:Sl)(a2:Int):M (Bool×Sl×Int):=nW bu [.bool false,aI,vi 0] λx0=>sh (nT n a0 a1 a2 (ak x0)) λx1=>sh (nS n a0 x1 a2 (ak x0)) λx2=>if decide ((↑x2.1.len:Int)=0) then sN (ak x0) [.bool false,aI,vi 0] λx3=>sh (bK [.bool,.sl,li] (ak x0)) λ(x4:Bool×Sl×Int)=>AI (x4.1,x4.2.1,x4.2.2) else sh (Ap none gT [.int IntKind.u8 0] (↑x2.1.len:Int) (↑x2.1.len:Int)) λx3=>sh (JS x3 x2.1 1) λx4=>sN (ak x0) [.bool a0,aC x3,vi x2.2] λx5=>sh (bK [.bool,.sl,li] (ak x0)) λ(x6:Bool×Sl×Int)=>AI (x6.1,x6.2.1,x6.2.2)
abbrev ae6 (n:Nat):dV:=eN 92 [jE,cp,az] [.agg [.bool,.sl,.int .i64]] (vD n)
abbrev ag7:=L1 [0,0,1] [(0,jE),(1,cp),(2,az),(6,aG)] [(1,cp)] ([1]++rG 8 11) 0 nT
abbrev ag8:=L1 [0,0,1,1] [(0,jE),(1,cp),(2,az),(6,aG)] [(1,cp),(2,az)] ([1,2]++rG 19 19) 2 nS
def UP (n:Nat):=ag8.k TZp Tryz.f92 n (hT:=λm _=>.m1 (K1 m))
def UQ (n:Nat):=ag7.k TZp Tryz.f92 n (hT:=λm _=>.m1 (K1 m))
def Gk (n:Nat):aH TZp (ae6 n):=bf Tryz.f92 (hT:=.m2 (K1 n) (.cc (UQ n) (.cc (UP n) .nil)))
def qY:uI (ζ->Sl->Int->Int->M Unit):=λG n a0 a1 a2 a3=>if decide (a3<a2) then sh (kE a0 a3) λx0=>iX a1 a3 1 λx1=>sN x1 [.int IntKind.u8 (IntKind.u8.wrap ((↑x0.toNat:Int)-48))] λx2=>G a0 a1 a2 (i64.wrap (a3+1)) else AI ()
def mm:=lp qY
theorem Ab (n:Nat):mm (n+1)=qY (mm n) n:=rfl
def uw (n:Nat)(a0:ζ):M Sl:=sh (Ap none gT [.int IntKind.u8 0] (↑a0.size:Int) (↑a0.size:Int)) λx0=>sh (mm n a0 x0 (↑a0.size:Int) 0) λx1=>AI x0
abbrev ae7 (n:Nat):dV:=eN 93 [qe] [cp] (uw n)
abbrev ag9:=L1 [0,1,0,1,1] [(0,qe),(3,cp),(9,az),(10,az)] [] ([4]++rG 10 11) 0 mm
def UR (n:Nat):=ag9.k TZp Tryz.f93 n (hT:=λm _=>.m1 (K1 m))
def Fa (n:Nat):aH TZp (ae7 n):=bf Tryz.f93 (hT:=.m2 (K1 n) (.cc (UR n) .nil))
def oM (n:Nat)(a0:Bool×Sl×Int):M Int:=nW bu [.bool a0.1,aC a0.2.1,vi a0.2.2] λx0=>lS (ak x0) 1 λx1=>if decide (400<(↑x1.len:Int)) then AI 6 else lI (ak x0) 2 λx2=>if decide (x2 < -2000) then AI 2 else lI (ak x0) 2 λx3=>if decide (2000<x3) then AI 2 else AI 0
abbrev ae8 (n:Nat):dV:=eN 94 [.agg [.bool,.sl,.int .i64]] [az] (oM n)
def AP (n:Nat):aH TZp (ae8 n):=bf Tryz.f94 (hT:=.m1 (K1 n))
def pR (n:Nat)(a0:Bool×Sl×Int):M ζ:=nW bu [.bool a0.1,aC a0.2.1,vi a0.2.2] λx0=>lB (ak x0) 0 λx1=>if x1 then AI (ofBytes [45]) else AI (ofBytes [])
abbrev Ym (n:Nat):dV:=eN 152 [.agg [.bool,.sl,.int .i64]] [qe] (pR n)
def BX (n:Nat):aH TZp (Ym n):=bf Tryz.f152 (hT:=.m1 (K1 n))
def mr:uI (Sl->Sl->Int->Int->M Unit):=λG n a0 a1 a2 a3=>if decide (a3<a2) then iX a1 a3 1 λx0=>sh (eU (.int IntKind.u8) x0) λ(x1:Int)=>iX a0 a3 1 λx2=>sN x2 [.int IntKind.u8 (IntKind.u8.wrap (48+x1))] λx3=>G a0 a1 a2 (i64.wrap (a3+1)) else AI ()
def iN:=lp mr
theorem wq (n:Nat):iN (n+1)=mr (iN n) n:=rfl
def nh (n:Nat)(a0:Bool×Sl×Int):M ζ:=nW bu [.bool a0.1,aC a0.2.1,vi a0.2.2] λx0=>lS (ak x0) 1 λx1=>sh (Ap none gT [.int IntKind.u8 0] (↑x1.len:Int) (↑x1.len:Int)) λx2=>lS (ak x0) 1 λx3=>sh (iN n x2 x3 (↑x3.len:Int) 0) λx4=>sh (strOf x2) λx5=>AI x5
abbrev Yn (n:Nat):dV:=eN 153 [.agg [.bool,.sl,.int .i64]] [qe] (nh n)
abbrev acG:=L1 [0,1,0,1,1] [(3,cp),(11,cp),(12,az),(13,az)] [] ([4,5]++rG 13 11) 0 iN
def QD (n:Nat):=acG.k TZp Tryz.f153 n (hT:=λm _=>.m1 (K1 m))
def Ac (n:Nat):aH TZp (Yn n):=bf Tryz.f153 (hT:=.m2 (K1 n) (.cc (QD n) .nil))
def H5 (n a0:Nat):M Bool:=AI !zL a0 a0
abbrev Yo (n:Nat):dV:=eN 158 [.one (.f64)] [jE] (H5 n)
def Ju (n:Nat):aH TZp (Yo n):=bf Tryz.f158 (hT:=.m1 (K1 n))
abbrev vn:=Addr->Addr->Int->Int->Int->M (Int⊕(Int×Bool))
def ni (G:vn)(n:Nat)(a0 a1:Addr)(a2 a3 a4:Int):M (Int⊕(Int×Bool)):=eT a1 λx0=>eI a0 λx1=>sh (kE x0 x1) λx2=>eI a0 λx3=>sN a0 [vi (i64.wrap (x3+1))] λx4=>G a0 a1 (i64.wrap (i64.wrap (10*a2)+i64.wrap (IntKind.u8.wrap ((↑x2.toNat:Int)-48)))) a3 (i64.wrap (a4+1))
def jG:uI (vn):=λG n a0 a1 a2 a3 a4=>if decide (a4<a3) then eI a0 λx0=>eT a1 λx1=>if decide ((↑(ByteArray.size x1):Int)<=x0) then AI (Sum.inr (0,false)) else eT a1 λx2=>eI a0 λx3=>sh (kE x2 x3) λx4=>if decide ((↑x4.toNat:Int)<48) then AI (Sum.inr (0,false)) else eT a1 λx5=>eI a0 λx6=>sh (kE x5 x6) λx7=>if decide (57<(↑x7.toNat:Int)) then AI (Sum.inr (0,false)) else ni G n a0 a1 a2 a3 a4 else AI (Sum.inl a2)
def jl:=lp jG
def AQ (n:Nat):=ni (jl n) n
def oY (n:Nat)(a0:Int)(a1 a2:Addr):M (Int×Bool):=sh (jl n a1 a2 0 a0 0) (dU (λx0=>AI (x0,true)) (λx0=>AI (x0.1,x0.2)))
abbrev Yp (n:Nat):dV:=eN 106 [az,aG,aG] [az,jE] (oY n)
abbrev acH:=L2 [0,1,0,1,1] [(1,aG),(2,aG),(6,az),(7,az),(8,az)] [(6,az)] [(4,az),(5,jE)] ([4,5,6]++rG 8 29) 0 .ret jl
abbrev QE (n:Nat):List (iU (Int⊕(Int×Bool))):=[jN (bL 5323) [.code (bL 7371),.au 1,.code (bL 971)] [(1,aG),(2,aG),(6,az),(7,az),(8,az)] (AQ n)]
def QF (n:Nat):=acH.k TZp Tryz.f106 n (jt:=QE) (hT:=λm _=>.m3 (K1 m) (.cc .nil))
def xk (n:Nat):aH TZp (Yp n):=bf Tryz.f106 (hT:=.m2 (K1 n) (.cc (QF n) .nil))
def y7 (n:Nat)(a0:Int):M Bool:=sh (pI (decide (4≠0))) λx0=>if decide (a0.tmod 4=0) then sh (pI (decide (100≠0))) λx1=>if !decide (a0.tmod 100=0) then AI true else sh (pI (decide (400≠0))) λx2=>AI (decide (a0.tmod 400=0)) else AI false
abbrev Yq (n:Nat):dV:=eN 163 [az] [jE] (y7 n)
def Jv (n:Nat):aH TZp (Yq n):=bf Tryz.f163 (hT:=.m1 (K1 n))
def uJ (n:Nat)(a0:Int):M Int:=sh (pI (decide (4≠0))) λx0=>sh (pI (decide (100≠0))) λx1=>sh (pI (decide (400≠0))) λx2=>AI (i64.wrap (i64.wrap (i64.wrap (i64.wrap (365*a0)+i64.wrap ((i64.wrap (a0+3)).tdiv 4))-i64.wrap ((i64.wrap (a0+99)).tdiv 100))+i64.wrap ((i64.wrap (a0+399)).tdiv 400)))
abbrev Yr (n:Nat):dV:=eN 138 [az] [az] (uJ n)
def H6 (n:Nat):aH TZp (Yr n):=bf Tryz.f138 (hT:=.m1 (K1 n))
def su:uI (Sl->Addr->Sl->Int->Int->Sl->Int->Int->M Unit):=λG n a0 a1 a2 a3 a4 a5 a6 a7=>if decide (a7<a6) then iX a5 a7 1 λx0=>eI x0 λx1=>iX a0 x1 1 λx2=>eI x2 λx3=>iX a0 x1 1 λx4=>sN x4 [vi (i64.wrap (x3+1))] λx5=>G a0 a1 a2 a3 a4 a5 a6 (i64.wrap (a7+1)) else AI ()
def nU:=lp su
theorem AR (n:Nat):nU (n+1)=su (nU n) n:=rfl
def sv:uI (Sl->Sl->Int->Int->Sl->Int->Int->M Unit):=λG n a0 a1 a2 a3 a4 a5 a6=>if decide (a6<a5) then iX a4 a6 1 λx0=>eI x0 λx1=>iX a0 x1 1 λx2=>eI x2 λx3=>iX a0 x1 1 λx4=>sN x4 [vi (i64.wrap (x3+1))] λx5=>G a0 a1 a2 a3 a4 a5 (i64.wrap (a6+1)) else AI ()
def nV:=lp sv
theorem AU (n:Nat):nV (n+1)=sv (nV n) n:=rfl
def sA:uI (Sl->Sl->Int->Int->M Unit):=λG n a0 a1 a2 a3=>if decide (a3<a2) then iX a1 a3 5 λx0=>nL x0 λx1=>nW ar [vi 0,.string (ofBytes []),.bool false,aI,aI] λx2=>sN (ak x2) [vi x1.1,.string x1.2.1,.bool x1.2.2.1,aC x1.2.2.2.1,aC x1.2.2.2.2] λx3=>lS (ak x2) 3 λx4=>sh (nU n a0 (ak x2) a1 a2 a3 x4 (↑x4.len:Int) 0) λx5=>lS (ak x2) 4 λx6=>sh (nV n a0 a1 a2 a3 x6 (↑x6.len:Int) 0) λx7=>G a0 a1 a2 (i64.wrap (a3+1)) else AI ()
def nX:=lp sA
theorem AV (n:Nat):nX (n+1)=sA (nX n) n:=rfl
def vE (n:Nat)(a0:Sl×Int):M Sl:=nW ah [aC a0.1,vi a0.2] λx0=>lS (ak x0) 0 λx1=>sh (Ap none av [vi 0] (↑x1.len:Int) (↑x1.len:Int)) λx2=>lI (ak x0) 1 λx3=>iX x2 x3 1 λx4=>eI x4 λx5=>iX x2 x3 1 λx6=>sN x6 [vi (i64.wrap (x5+1))] λx7=>lS (ak x0) 0 λx8=>sh (nX n x2 x8 (↑x8.len:Int) 0) λx9=>AI x2
abbrev ae9 (n:Nat):dV:=eN 31 [.agg [.sl,.int .i64]] [cp] (vE n)
abbrev aha:=L1 (bL 87) [(3,cp),(22,cp),(23,az),(24,az)] [] ([5,7,9]++rG 24 33) 0 nX
abbrev ahb:=L1 (bL 43415) [(3,cp),(5,aG),(22,cp),(23,az),(24,az),(29,cp),(30,az),(31,az)] [] ([7]++rG 31 11) 2 nU
abbrev ahc:=L1 (bL 47511) [(3,cp),(22,cp),(23,az),(24,az),(43,cp),(44,az),(45,az)] [] ([9]++rG 45 11) 4 nV
def US (n:Nat):=ahb.k TZp Tryz.f31 n (hT:=λm _=>.m1 (K1 m))
def UT (n:Nat):=ahc.k TZp Tryz.f31 n (hT:=λm _=>.m1 (K1 m))
def UU (n:Nat):=aha.k TZp Tryz.f31 n (hT:=λm _=>.m2 (K1 m) (.cc (US m) (.cc (UT m) .nil)))
def Gl (n:Nat):aH TZp (ae9 n):=bf Tryz.f31 (hT:=.m2 (K1 n) (.cc (UU n) .nil))
structure bw where
 iS:Addr->Addr->Addr->Int->Int->Bool->Sl->Int->Int->Sl->Int->Int->M Bool
 lN:Addr->Addr->Addr->Sl->Int->Int->M (Unit⊕Bool)
 gU:Addr->Addr->Addr->Int->Int->M (Unit⊕Bool)
 jy:(Sl×Int)->Int->Int->M Bool
def uX (G:bw)(n:Nat)(a0 a1 a2:Addr)(a3 a4:Int)(a5:Bool)(a6:Sl)(a7 a8:Int)(a9:Sl)(a10 a11:Int):M Bool:=if decide (a11<a10) then iX a9 a11 1 λx0=>eI x0 λx1=>if a5 then G.iS a0 a1 a2 a3 a4 true a6 a7 a8 a9 a10 (i64.wrap (a11+1)) else gL a0 λx2=>sh (G.jy (x2.1,x2.2) a4 x1) λx3=>if x3 then gL a0 λx4=>lS a1 4 λx5=>iX x5 a3 1 λx6=>eI x6 λx7=>lS a2 4 λx8=>iX x8 a11 1 λx9=>eI x9 λx10=>sh (G.jy (x4.1,x4.2) x7 x10) λx11=>G.iS a0 a1 a2 a3 a4 x11 a6 a7 a8 a9 a10 (i64.wrap (a11+1)) else G.iS a0 a1 a2 a3 a4 false a6 a7 a8 a9 a10 (i64.wrap (a11+1)) else AI a5
def uY (G:bw)(n:Nat)(a0 a1 a2:Addr)(a3:Sl)(a4 a5:Int):M (Unit⊕Bool):=if decide (a5<a4) then iX a3 a5 1 λx0=>eI x0 λx1=>lS a2 3 λx2=>sh (G.iS a0 a1 a2 a5 x1 false a3 a4 a5 x2 (↑x2.len:Int) 0) λx3=>if !x3 then AI (Sum.inr false) else G.lN a0 a1 a2 a3 a4 (i64.wrap (a5+1)) else AI (Sum.inl ())
def uZ (G:bw)(n:Nat)(a0 a1 a2:Addr)(a3 a4:Int):M (Unit⊕Bool):=if decide (a4<a3) then lI a1 0 λx0=>if decide (x0=10) then gL a0 λx1=>lS a1 3 λx2=>iX x2 a4 1 λx3=>eI x3 λx4=>lS a2 3 λx5=>iX x5 a4 1 λx6=>eI x6 λx7=>sh (G.jy (x1.1,x1.2) x4 x7) λx8=>if !x8 then AI (Sum.inr false) else gL a0 λx9=>lS a1 4 λx10=>iX x10 a4 1 λx11=>eI x11 λx12=>lS a2 4 λx13=>iX x13 a4 1 λkH=>eI kH λx15=>sh (G.jy (x9.1,x9.2) x12 x15) λrJ=>if !rJ then AI (Sum.inr false) else G.gU a0 a1 a2 a3 (i64.wrap (a4+1)) else gL a0 λx1=>lS a1 4 λx2=>iX x2 a4 1 λx3=>eI x3 λx4=>lS a2 4 λx5=>iX x5 a4 1 λx6=>eI x6 λx7=>sh (G.jy (x1.1,x1.2) x4 x7) λx8=>if !x8 then AI (Sum.inr false) else G.gU a0 a1 a2 a3 (i64.wrap (a4+1)) else AI (Sum.inl ())
def u0 (G:bw)(n:Nat)(a0 a1 a2:Addr):M Bool:=lI a1 0 λx0=>if decide (x0=10) then lB a1 2 λx1=>if !x1 then lS a1 3 λx2=>sh (G.lN a0 a1 a2 x2 (↑x2.len:Int) 0) (dU (λx3=>AI true) (λx3=>AI x3)) else lS a1 4 λx2=>sh (G.gU a0 a1 a2 (↑x2.len:Int) 0) (dU (λx3=>AI true) (λx3=>AI x3)) else lS a1 4 λx1=>sh (G.gU a0 a1 a2 (↑x1.len:Int) 0) (dU (λx2=>AI true) (λx2=>AI x2))
def y8 (G:bw)(n:Nat)(a0:Sl×Int)(a1 a2:Int):M Bool:=nW ah [aC a0.1,vi a0.2] λx0=>sh (eA 14) λx1=>lS (ak x0) 0 λx2=>iX x2 a1 5 λx3=>nL x3 λx4=>lS (ak x0) 0 λx5=>iX x5 a2 5 λx6=>nL x6 λx7=>sh (iB (some (x1+10)) ar [vi 0,.string (ofBytes []),.bool false,aI,aI]) λx8=>sh (iB (some (x1+11)) ar [vi 0,.string (ofBytes []),.bool false,aI,aI]) λx9=>sh (uC [some ((ak x0).plus 0),some x6] (rE (ak x8) [vi x4.1,.string x4.2.1,.bool x4.2.2.1,aC x4.2.2.2.1,aC x4.2.2.2.2])) λx10=>sN (ak x9) [vi x7.1,.string x7.2.1,.bool x7.2.2.1,aC x7.2.2.2.1,aC x7.2.2.2.2] λx11=>lI (ak x8) 0 λx12=>lI (ak x9) 0 λx13=>if !decide (x12=x13) then AI false else lT (ak x8) 1 λkH=>lT (ak x9) 1 λx15=>if !mQ kH x15 then AI false else lB (ak x8) 2 λrJ=>lB (ak x9) 2 λx17=>if !rJ==x17 then AI false else lS (ak x8) 4 λxa=>lS (ak x9) 4 λx19=>if !decide ((↑xa.len:Int)=(↑x19.len:Int)) then AI false else u0 G n (ak x0) (ak x8) (ak x9)
def bw.at:Nat->bw|0=>⟨λ_ _ _ _ _ _ _ _ _ _ _ _=>AS,λ_ _ _ _ _ _=>AS,λ_ _ _ _ _=>AS,λ_ _ _=>AS⟩|n+1=>⟨uX (bw.at n) n,uY (bw.at n) n,uZ (bw.at n) n,y8 (bw.at n) n⟩
def iS (n:Nat):=(bw.at n).iS
theorem CW (n:Nat):iS (n+1)=uX (bw.at n) n:=rfl
def lN (n:Nat):=(bw.at n).lN
theorem CX (n:Nat):lN (n+1)=uY (bw.at n) n:=rfl
def gU (n:Nat):=(bw.at n).gU
theorem CY (n:Nat):gU (n+1)=uZ (bw.at n) n:=rfl
def jy (n:Nat):=(bw.at n).jy
theorem Gm (n:Nat):jy (n+1)=y8 (bw.at n) n:=rfl
def Jw (n:Nat):=u0 (bw.at n) n
abbrev Ys (n:Nat):dV:=eN 48 [.agg [.sl,.int .i64],az,az] [jE] (jy n)
abbrev ahd:=L2 (bL 663) [(3,aG),(7,aG),(8,aG),(62,cp),(63,az),(64,az)] [] [(6,jE)] ([6]++rG 9 5++rG 64 38) 0 .ret lN
abbrev ahe:=L1 (bL 707735) [(3,aG),(7,aG),(8,aG),(9,az),(10,az),(11,jE),(62,cp),(63,az),(64,az),(70,cp),(71,az),(72,az)] [(11,jE)] ([11,12,13]++rG 72 27) 2 iS
abbrev ahf:=L2 (bL 175) [(3,aG),(7,aG),(8,aG),(104,az),(105,az)] [] [(6,jE)] ([6,14]++rG 105 37) 4 .ret gU
abbrev C2 (n:Nat):List dV:=Ys n::C1 n
def LQ:=dR [(1,[0,2,5,7,1,3,4,6,8,9,10,11,10007012,13]),(12,[0,1,3,4,2,5,6,8,10,13,15,7,9,11,12,14]++rG 16 6),(21,[0,1,2,3,5,7,10,12,4,6,8,9,11]++rG 13 6++[20,22,25,27,19,21,23,24,26]++rG 28 5)]
abbrev ahg (n:Nat):List (iU Bool):=[jN [0,0,1,1,1] [.code [1,0,1,1,1],.code [1,1,1,1]] [(3,aG),(7,aG),(8,aG)] (Jw n)]
def nj (n:Nat):Prop:=aH TZp (Ys n)
def Yt (n:Nat)(H:nj n):eY TZp (C2 n):=.cons H (K1 n)
def UW (n:Nat)(H:Hy nj n):=ahe.k TZp Tryz.f48 n (dr:=LQ) (hT:=λm hm=>.m1 (Yt m ((H.d hm).s)))
def UX (n:Nat)(H:Hy nj n):=ahd.k TZp Tryz.f48 n (dr:=LQ) (hT:=λm hm=>.m2 (Yt m ((H.d hm).s)) (.cc (UW m (H.d hm)) .nil))
def UY (n:Nat)(H:Hy nj n):=ahf.k TZp Tryz.f48 n (dr:=LQ) (hT:=λm hm=>.m1 (Yt m ((H.d hm).s)))
def CZ (n:Nat)(H:Hy nj n):aH TZp (Ys (n+1)):=bf Tryz.f48 (dr:=LQ) (js:=ahg n) (hT:=⟨.nil,Yt n (H.s),.nil,(.cc (UX n H) (.cc (UY n H) .nil)),(.cc .nil)⟩)
def Fb (n:Nat):nj n:=Oc (Q:=nj) (gM Tryz.f48) CZ n
def K2 (n:Nat):eY TZp (C2 n):=Yt n (Fb n)
structure aA where
 eD:Addr->Addr->Addr->Addr->Addr->Int->M Int
 eE:Addr->Addr->Addr->Addr->Addr->Addr->Addr->ο->Sl->Int->Int->M Unit
 eG:Addr->Addr->Addr->Addr->Addr->Addr->Addr->Addr->ο->Sl->Int->Int->M Unit
 gw:Int->Addr->Addr->Addr->Addr->Addr->Addr->Addr->Addr->Addr->M Unit
 gF:Int->Addr->Addr->Addr->Addr->Addr->M Unit
def fU (G:aA)(n:Nat)(x:ο)(a0:Int):M Unit:=if rN jO x then sh (qq [aG,aG,aG,aG,aG] x) λ(c:Addr×Addr×Addr×Addr×Addr)=>G.gF a0 c.1 c.2.1 c.2.2.1 c.2.2.2.1 c.2.2.2.2 else AS
abbrev lO:=fU
def j8 (G:aA)(n:Nat)(x:ο)(a0:Int):M Unit:=if rN lh x then sh (qq [aG,aG,aG,aG,aG,aG,aG,aG,aG] x) λ(c:Addr×Addr×Addr×Addr×Addr×Addr×Addr×Addr×Addr)=>G.gw a0 c.1 c.2.1 c.2.2.1 c.2.2.2.1 c.2.2.2.2.1 c.2.2.2.2.2.1 c.2.2.2.2.2.2.1 c.2.2.2.2.2.2.2.1 c.2.2.2.2.2.2.2.2 else AS
def mu (G:aA)(n:Nat)(a0 a1 a2 a3 a4:Addr)(a5:Int):M Int:=eS a0 λx0=>eS a0 λx1=>iX x0 (i64.wrap ((↑x1.len:Int)-1)) 1 λx2=>eI x2 λx3=>eS a0 λx4=>eS a0 λx5=>sh (mY x4 0 (i64.wrap ((↑x5.len:Int)-1)) av 1) λx6=>sN a0 [aC x6] λx7=>eS a1 λx8=>iX x8 x3 1 λx9=>sN x9 [.bool false] λx10=>eS a3 λx11=>eS a2 λx12=>iX x11 x3 1 λx13=>sN x13 [vi (↑x12.len:Int)] λkH=>eI a4 λx15=>if decide (x3=x15) then AI (i64.wrap (a5+1)) else G.eD a0 a1 a2 a3 a4 (i64.wrap (a5+1))
def mw (G:aA)(n:Nat)(a0 a1 a2 a3 a4 a5 a6:Addr)(a7:ο)(a8:Sl)(a9 a10:Int):M Unit:=if decide (a10<a9) then iX a8 a10 1 λx0=>eI x0 λx1=>sh (lO G n a7 x1) λx2=>G.eE a0 a1 a2 a3 a4 a5 a6 a7 a8 a9 (i64.wrap (a10+1)) else AI ()
def mz (G:aA)(n:Nat)(a0 a1 a2 a3 a4 a5 a6 a7:Addr)(a8:ο)(a9:Sl)(a10 a11:Int):M Unit:=if decide (a11<a10) then iX a9 a11 1 λx0=>eI x0 λx1=>sh (fU G n a8 x1) λx2=>G.eG a0 a1 a2 a3 a4 a5 a6 a7 a8 a9 a10 (i64.wrap (a11+1)) else AI ()
def oZ (G:aA)(n:Nat)(a0:Int)(a1 a2 a3 a4 a5 a6 a7 a8 a9:Addr):M Unit:=nW av [vi a0] λx0=>eI a1 λx1=>sN a1 [vi (i64.wrap (x1+1))] λx2=>eS a2 λx3=>sh (eU li (ak x0)) λ(x4:Int)=>eS a3 λx5=>sh (eU li (ak x0)) λ(x6:Int)=>eI a1 λx7=>iX x3 x4 1 λx8=>eI a1 λx9=>sh (uC [some a3,some (ak x0),some a1] (rE x8 [vi x7])) λx10=>iX x5 x6 1 λx11=>sN x11 [vi x9] λx12=>eS a4 λx13=>sh (eU li (ak x0)) λ(kH:Int)=>sh (app false x13 1 av 1 [vi kH]) λx15=>sN a4 [aC x15] λrJ=>eS a5 λx17=>sh (eU li (ak x0)) λ(xa:Int)=>iX x17 xa 1 λx19=>sN x19 [.bool true] λx20=>lS a7 0 λx21=>sh (eU li (ak x0)) λ(x22:Int)=>iX x21 x22 5 λx23=>lS x23 3 λx24=>sh (G.eG a2 a3 a4 a5 a7 a8 a9 (ak x0) (Value.func (Fn.func jO) #[] #[.pointer (some a2),.pointer (some a6),.pointer (some a3),.pointer (some (ak x0)),.pointer (some a5)]) x24 (↑x24.len:Int) 0) λx25=>lS a7 0 λx26=>sh (eU li (ak x0)) λ(x27:Int)=>iX x26 x27 5 λx28=>lS x28 4 λx29=>sh (G.eE a2 a3 a4 a5 a8 a9 (ak x0) (Value.func (Fn.func jO) #[] #[.pointer (some a2),.pointer (some a6),.pointer (some a3),.pointer (some (ak x0)),.pointer (some a5)]) x29 (↑x29.len:Int) 0) λx30=>eS a3 λx31=>sh (eU li (ak x0)) λ(x32:Int)=>iX x31 x32 1 λx33=>eI x33 λx34=>eS a2 λx35=>sh (eU li (ak x0)) λ(x36:Int)=>iX x35 x36 1 λx37=>eI x37 λx38=>if !decide (x34=x38) then AI () else sh (G.eD a4 a5 a8 a9 (ak x0) 0) λx39=>eS a8 λx40=>sh (app false x40 1 av 1 [vi x39]) λx41=>sN a8 [aC x41] λx42=>AI ()
def np (G:aA)(n:Nat)(a0:Int)(a1 a2 a3 a4 a5:Addr):M Unit:=eS a1 λx0=>iX x0 a0 1 λx1=>eI x1 λx2=>if decide (x2=0) then sh (eU .raw a2) λ(x3:ο)=>sh (j8 G n x3 a0) λx4=>eS a3 λx5=>eI a4 λx6=>eS a3 λx7=>eI a4 λx8=>iX x7 x8 1 λx9=>eI x9 λx10=>eS a3 λx11=>iX x11 a0 1 λx12=>eI x12 λx13=>iX x5 x6 1 λkH=>sN kH [vi (if x13<x10 then x13 else x10)] λx15=>AI () else eS a5 λx3=>iX x3 a0 1 λx4=>eB x4 λx5=>if x5 then eS a3 λx6=>eI a4 λx7=>eS a3 λx8=>eI a4 λx9=>iX x8 x9 1 λx10=>eI x10 λx11=>eS a1 λx12=>iX x12 a0 1 λx13=>eI x13 λkH=>iX x6 x7 1 λx15=>sN x15 [vi (if kH<x11 then kH else x11)] λrJ=>AI () else AI ()
def aA.at:Nat->aA|0=>⟨λ_ _ _ _ _ _=>AS,λ_ _ _ _ _ _ _ _ _ _ _=>AS,λ_ _ _ _ _ _ _ _ _ _ _ _=>AS,λ_ _ _ _ _ _ _ _ _ _=>AS,λ_ _ _ _ _ _=>AS⟩|n+1=>⟨mu (aA.at n) n,mw (aA.at n) n,mz (aA.at n) n,oZ (aA.at n) n,np (aA.at n) n⟩
def eD (n:Nat):=(aA.at n).eD
theorem wu (n:Nat):eD (n+1)=mu (aA.at n) n:=rfl
def eE (n:Nat):=(aA.at n).eE
theorem wv (n:Nat):eE (n+1)=mw (aA.at n) n:=rfl
def eG (n:Nat):=(aA.at n).eG
theorem wx (n:Nat):eG (n+1)=mz (aA.at n) n:=rfl
def gw (n:Nat):=(aA.at n).gw
theorem ym (n:Nat):gw (n+1)=oZ (aA.at n) n:=rfl
def gF (n:Nat):=(aA.at n).gF
theorem wZ (n:Nat):gF (n+1)=np (aA.at n) n:=rfl
def za (n:Nat):=fU (aA.at n) n
def zb (n:Nat):=lO (aA.at n) n
def xI (n:Nat):=j8 (aA.at n) n
abbrev Sv (n:Nat):dV:=eN 62 [az,aG,aG,aG,aG,aG,aG,aG,aG,aG] [] (gw n)
abbrev ahh:=L1 (bL 703) [(2,aG),(3,aG),(4,aG),(5,aG),(7,aG),(8,aG),(9,aG),(10,aG),(11,tL),(41,cp),(42,az),(43,az)] [] ([13]++rG 43 8) 0 eG
abbrev ahi:=L1 (bL 1407) [(2,aG),(3,aG),(4,aG),(5,aG),(8,aG),(9,aG),(10,aG),(11,tL),(56,cp),(57,az),(58,az)] [] ([15]++rG 58 8) 2 eE
abbrev ahj:=L1 (bL 5119) [(4,aG),(5,aG),(8,aG),(9,aG),(10,aG),(16,az)] [(16,az)] ([16,17]++rG 75 24) 4 eD
abbrev Yu (n:Nat):dV:=eN 63 [az,aG,aG,aG,aG,aG] [] (gF n)
abbrev C3 (n:Nat):List dV:=Sv n::Yu n::C2 n
abbrev ahk (n:Nat):List rF:=[dN 47 [az] [] (za n), dN 62 [az] [] (zb n)]
def LR:=dR [(2,rG 0 5++[6,5,6004003007,8,9]),(16,rG 0 9)]
abbrev ahl (n:Nat):List rF:=[dN 12 [az] [] (xI n)]
def ahm:=dR [(2,[7]++rG 0 7++rG 8 5),(4,[7]++rG 0 7++rG 8 5)]
def cG (n:Nat):Prop:=aH TZp (Sv n)/\aH TZp (Yu n)
def UZ (n:Nat)(H:cG n):eY TZp (C3 n):=.cons H.1 (.cons H.2 (K2 n))
def LS (n:Nat)(H:cG n):qU TZp (ahk n):=.cons (di (.cons (oT [aG,aG,aG,aG,aG] (H).2) .nil)) (.cons (di (.cons (oT [aG,aG,aG,aG,aG] (H).2) .nil)) .nil)
def U0 (n:Nat)(H:Hy cG n):=ahj.k TZp Tryz.f62 n (dr:=LR) (hT:=λm hm=>⟨.nil,UZ m ((H.d hm).s),(LS m ((H.d hm).s)),.nil,.nil⟩)
def U1 (n:Nat)(H:Hy cG n):=ahi.k TZp Tryz.f62 n (dr:=LR) (hT:=λm hm=>⟨.nil,UZ m ((H.d hm).s),(LS m ((H.d hm).s)),.nil,.nil⟩)
def U2 (n:Nat)(H:Hy cG n):=ahh.k TZp Tryz.f62 n (dr:=LR) (hT:=λm hm=>⟨.nil,UZ m ((H.d hm).s),(LS m ((H.d hm).s)),.nil,.nil⟩)
def wy (n:Nat)(H:Hy cG n):aH TZp (Sv (n+1)):=bf Tryz.f62 (dr:=LR) (hT:=⟨.nil,UZ n (H.s),(LS n (H.s)),(.cc (U2 n H) (.cc (U1 n H) (.cc (U0 n H) .nil))),.nil⟩)
def ahn (n:Nat)(H:cG n):qU TZp (ahl n):=.cons (di (.cons (oT [aG,aG,aG,aG,aG,aG,aG,aG,aG] (H).1) .nil)) .nil
def u4 (n:Nat)(H:Hy cG n):aH TZp (Yu (n+1)):=bf Tryz.f63 (dr:=ahm) (hT:=⟨.nil,UZ n (H.s),(ahn n (H.s)),.nil,.nil⟩)
def qu (n:Nat):cG n:=Oc (Q:=cG) ⟨gM Tryz.f62,gM Tryz.f63⟩ (λk h=>⟨wy k h,u4 k h⟩) n
def Ad (n:Nat):aH TZp (Sv n):=(qu n).1
def K3 (n:Nat):eY TZp (C3 n):=UZ n (qu n)
def AW (n:Nat)(a0:Sl×Int):M (θ):=nW ah [aC a0.1,vi a0.2] λx0=>sh (eA 8) λx1=>gL (ak x0) λx2=>lS (ak x0) 0 λx3=>sh (Ap (some (x1+4)) aJ [aI] (↑x3.len:Int) (↑x3.len:Int)) λx4=>sh (iB (some (x1+6)) dA [aC x2.1,vi x2.2,aC x4]) λx5=>AI (some (ak x5))
abbrev afa (n:Nat):dV:=eN 23 [.agg [.sl,.int .i64]] [vW] (AW n)
def aho:=dR [(1,[1,0]++rG 2 6)]
def Ox (n:Nat):aH TZp (afa n):=bf Tryz.f23 (dr:=aho) (hT:=.m1 (K3 n))
def sB:uI (Sl->Sl->Int->M (Unit⊕Int)):=λG n a0 a1 a2=>if decide (0<=a2) then iX a0 a2 1 λx0=>iX a1 a2 1 λx1=>sh (eU (.int IntKind.u8) x0) λ(x2:Int)=>sh (eU (.int IntKind.u8) x1) λ(x3:Int)=>if !decide (x2=x3) then iX a0 a2 1 λx4=>iX a1 a2 1 λx5=>sh (eU (.int IntKind.u8) x4) λ(x6:Int)=>sh (eU (.int IntKind.u8) x5) λ(x7:Int)=>if decide (x6<x7) then AI (Sum.inr (-1)) else AI (Sum.inr 1) else G a0 a1 (i64.wrap (a2-1)) else AI (Sum.inl ())
def nY:=lp sB
theorem AX (n:Nat):nY (n+1)=sB (nY n) n:=rfl
def sC (n:Nat)(a0 a1:Sl):M Int:=if !decide ((↑a0.len:Int)=(↑a1.len:Int)) then if decide ((↑a0.len:Int)<(↑a1.len:Int)) then AI (-1) else AI 1 else sh (nY n a0 a1 (i64.wrap ((↑a0.len:Int)-1))) (dU (λx0=>AI 0) (λx0=>AI x0))
abbrev Yv (n:Nat):dV:=eN 142 [cp,cp] [az] (sC n)
abbrev acI:=L2 [0,1,0,1,1] [(0,cp),(1,cp),(5,az)] [] [(4,az)] ([4,5]++rG 19 22) 0 .ret nY
def Sw:=dR [(8,[0,1,2,4,5,6,3,7,8]),(9,[0,1,2,4,5,6,3,7,8])]
def QG (n:Nat):=acI.k TZp Tryz.f142 n (dr:=Sw) (hT:=λm _=>.m1 (K3 m))
def Gn (n:Nat):aH TZp (Yv n):=bf Tryz.f142 (dr:=Sw) (hT:=.m2 (K3 n) (.cc (QG n) .nil))
def ux (n:Nat)(a0:Int):M Int:=if decide (a0<0) then AI (-1) else if decide (0<a0) then AI 1 else AI 0
abbrev Yw (n:Nat):dV:=eN 169 [az] [az] (ux n)
def Fc (n:Nat):aH TZp (Yw n):=bf Tryz.f169 (hT:=.m1 (K3 n))
def iW (n:Nat)(a0:Bool×Sl×Int)(a1:Int):M Int:=nW bu [.bool a0.1,aC a0.2.1,vi a0.2.2] λx0=>lS (ak x0) 1 λx1=>if decide (a1<(↑x1.len:Int)) then lS (ak x0) 1 λx2=>iX x2 a1 1 λx3=>sh (eU (.int IntKind.u8) x3) λ(x4:Int)=>AI x4 else AI 0
abbrev Yx (n:Nat):dV:=eN 189 [.agg [.bool,.sl,.int .i64],az] [.one (.int .u8)] (iW n)
def mA (n:Nat):aH TZp (Yx n):=bf Tryz.f189 (hT:=.m1 (K3 n))
def lr (n:Nat)(a0:θ):M Int:=sh (nn a0) λx0=>sh (nn a0) λx1=>sh (eU (.int IntKind.u64) x0) λ(x2:Int)=>sh (eU (.int IntKind.u64) x1) λ(x3:Int)=>sh (pI (decide (0<=13))) λx4=>sh (nn a0) λx5=>sN x5 [.int IntKind.u64 (IntKind.u64.wrap (↑(BitVec.ofInt 64 x2^^^BitVec.ofInt 64 (IntKind.u64.wrap (x3*2^13))).toNat:Int))] λx6=>sh (nn a0) λx7=>sh (nn a0) λx8=>sh (eU (.int IntKind.u64) x7) λ(x9:Int)=>sh (eU (.int IntKind.u64) x8) λ(x10:Int)=>sh (pI (decide (0<=7))) λx11=>sh (nn a0) λx12=>sN x12 [.int IntKind.u64 (IntKind.u64.wrap (↑(BitVec.ofInt 64 x9^^^BitVec.ofInt 64 (Int.fdiv x10 (2^7))).toNat:Int))] λx13=>sh (nn a0) λkH=>sh (nn a0) λx15=>sh (eU (.int IntKind.u64) kH) λ(rJ:Int)=>sh (eU (.int IntKind.u64) x15) λ(x17:Int)=>sh (pI (decide (0<=17))) λxa=>sh (nn a0) λx19=>sN x19 [.int IntKind.u64 (IntKind.u64.wrap (↑(BitVec.ofInt 64 rJ^^^BitVec.ofInt 64 (IntKind.u64.wrap (x17*2^17))).toNat:Int))] λx20=>sh (nn a0) λx21=>sh (eU (.int IntKind.u64) x21) λ(x22:Int)=>AI x22
abbrev Yy (n:Nat):dV:=eN 113 [vW] [.one (.int .u64)] (lr n)
def acJ:=dR [(1,[0,1,3,4,2]++rG 5 5),(2,[0,1,3,4,2]++rG 5 5),(3,[0,1,3,4,2]++rG 5 5)]
def yo (n:Nat):aH TZp (Yy n):=bf Tryz.f113 (dr:=acJ) (hT:=.m1 (K3 n))
def cH:uI (Sl->Int->Int->M Unit):=λG n a0 a1 a2=>if decide (a1<a2) then iX a0 a2 1 λx0=>iX a0 a1 1 λx1=>eI x0 λx2=>eI x1 λx3=>iX a0 a1 1 λx4=>sN x4 [vi x2] λx5=>iX a0 a2 1 λx6=>sN x6 [vi x3] λx7=>G a0 (i64.wrap (a1+1)) (i64.wrap (a2-1)) else AI ()
def cW:=lp cH
def fE (n:Nat)(a0:Sl)(a1 a2:Int)(a3:ο):M Unit:=sh (cW n a0 a1 (i64.wrap (a2-1))) λx0=>AI ()
abbrev afb (n:Nat):dV:=eN 81 [cp,az,az,tL] [] (fE n)
abbrev ahp:=L1 [0,1,1] [(0,cp),(8,az),(9,az)] [] ([8,9]++rG 13 21) 0 cW
def Yz:=dR [(3,rG 0 7++[8,9,10,7]++rG 11 5)]
def U3 (n:Nat):=ahp.k TZp Tryz.f81 n (dr:=Yz) (hT:=λm _=>.m1 (K3 m))
def rH (n:Nat):aH TZp (afb n):=bf Tryz.f81 (dr:=Yz) (hT:=.m2 (K3 n) (.cc (U3 n) .nil))
def ic (n:Nat)(a0:θ):M ζ:=sh (nn a0) λx0=>sh (nn a0) λx1=>lS x0 1 λx2=>sh (FN x2.a x2.len) λx3=>lS x1 1 λx4=>sh (abR gT x3 (↑x4.len:Int)) λx5=>AI x5
abbrev afc (n:Nat):dV:=eN 26 [vW] [qe] (ic n)
def ahq:=dR [(1,[0,1,2,5,6,7,3,4,8,9,10,11])]
def w3 (n:Nat):aH TZp (afc n):=bf Tryz.f26 (dr:=ahq) (hT:=.m1 (K3 n))
def sD:uI (Addr->Sl->Sl->Int->Int->M Unit):=λG n a0 a1 a2 a3 a4=>if decide (a4<a3) then iX a2 a4 1 λx0=>eI x0 λx1=>eS a0 λx2=>iX x2 x1 1 λx3=>eI x3 λx4=>iX a1 a4 1 λx5=>sN x5 [vi x4] λx6=>G a0 a1 a2 a3 (i64.wrap (a4+1)) else AI ()
def nZ:=lp sD
theorem AY (n:Nat):nZ (n+1)=sD (nZ n) n:=rfl
def sE (n:Nat)(a0:Sl)(a1:Addr):M Sl:=sh (Ap none av [vi 0] (↑a0.len:Int) (↑a0.len:Int)) λx0=>sh (nZ n a1 x0 a0 (↑a0.len:Int) 0) λx1=>AI x0
abbrev afd (n:Nat):dV:=eN 44 [cp,aG] [cp] (sE n)
abbrev ahr:=L1 [0,1,0,1,1] [(1,aG),(4,cp),(10,cp),(11,az),(12,az)] [] ([5,6]++rG 12 13) 0 nZ
def U4 (n:Nat):=ahr.k TZp Tryz.f44 n (hT:=λm _=>.m1 (K3 m))
def u5 (n:Nat):aH TZp (afd n):=bf Tryz.f44 (hT:=.m2 (K3 n) (.cc (U4 n) .nil))
def iw (n:Nat)(a0:ζ):M (Int×ζ×Bool×Sl×Sl):=nW ar [vi 0,.string (ofBytes []),.bool false,aI,aI] λx0=>sN (ak x0) [vi 2,.string a0,.bool false,aI,aI] λx1=>nL (ak x0) λx2=>AI (x2.1,x2.2.1,x2.2.2.1,x2.2.2.2.1,x2.2.2.2.2)
abbrev afe (n:Nat):dV:=eN 14 [qe] [.agg [.int .i64,.str,.bool,.sl,.sl]] (iw n)
def zg (n:Nat):aH TZp (afe n):=bf Tryz.f14 (hT:=.m1 (K3 n))
def wz:uI (Sl->Sl->Int->M (Unit⊕Bool)):=λG n a0 a1 a2=>if decide (a2<(↑a0.len:Int)) then iX a0 a2 2 λx0=>iX a1 a2 2 λx1=>sh (bK [li,.str] x0) λ(x2:Int×ζ)=>sh (bK [li,.str] x1) λ(x3:Int×ζ)=>if !(decide (x2.1=x3.1)&&(mQ x2.2 x3.2&&true)) then AI (Sum.inr false) else G a0 a1 (i64.wrap (a2+1)) else AI (Sum.inl ())
def qv:=lp wz
def tF (n:Nat)(a0 a1:Sl):M Bool:=if !decide ((↑a0.len:Int)=(↑a1.len:Int)) then AI false else sh (qv n a0 a1 0) (dU (λx0=>AI true) (λx0=>AI x0))
abbrev aff (n:Nat):dV:=eN 15 [cp,cp] [jE] (tF n)
abbrev ahs:=L2 [0,1,0,1,1] [(0,cp),(1,cp),(5,az)] [] [(4,jE)] ([4,5]++rG 11 15) 0 .ret qv
def YA:=dR [(6,[0,1,2,4,5,6,3,7,8])]
def U5 (n:Nat):=ahs.k TZp Tryz.f15 n (dr:=YA) (hT:=λm _=>.m1 (K3 m))
def xJ (n:Nat):aH TZp (aff n):=bf Tryz.f15 (dr:=YA) (hT:=.m2 (K3 n) (.cc (U5 n) .nil))
abbrev tG:=Addr->Int->Int->Int->M ((Int×Int)⊕Bool)
def lP (G:tG)(n:Nat)(a0:Addr)(a1 a2 a3:Int)(a4:Addr):M ((Int×Int)⊕Bool):=lS a4 3 λx0=>lS a4 4 λx1=>lT a4 1 λx2=>G a0 (i64.wrap (a1+i64.wrap ((↑x0.len:Int)+(↑x1.len:Int)))) (i64.wrap (a2+(↑(ByteArray.size x2):Int))) (i64.wrap (a3+1))
def oC:uI (tG):=λG n a0 a1 a2 a3=>lS a0 0 λx0=>if decide (a3<(↑x0.len:Int)) then lS a0 0 λx1=>iX x1 a3 5 λx2=>nL x2 λx3=>nW ar [vi 0,.string (ofBytes []),.bool false,aI,aI] λx4=>sN (ak x4) [vi x3.1,.string x3.2.1,.bool x3.2.2.1,aC x3.2.2.2.1,aC x3.2.2.2.2] λx5=>lT (ak x4) 1 λx6=>if decide (100<(↑(ByteArray.size x6):Int)) then AI (Sum.inr false) else lS (ak x4) 3 λx7=>if decide (80<(↑x7.len:Int)) then AI (Sum.inr false) else lS (ak x4) 4 λx8=>if decide (80<(↑x8.len:Int)) then AI (Sum.inr false) else lP G n a0 a1 a2 a3 (ak x4) else AI (Sum.inl (a1,a2))
def iz:=lp oC
theorem xK (n:Nat):iz (n+1)=oC (iz n) n:=rfl
def zh (n:Nat):=lP (iz n) n
def jX (n:Nat)(a0:Sl×Int):M Bool:=nW ah [aC a0.1,vi a0.2] λx0=>lS (ak x0) 0 λx1=>if decide (40<(↑x1.len:Int)) then AI false else sh (iz n (ak x0) 0 0 0) (dU (λx2=>if decide (x2.1<=240) then AI (decide (x2.2<=300)) else AI false) (λx2=>AI x2))
abbrev amH (n:Nat):dV:=eN 6 [.agg [.sl,.int .i64]] [jE] (jX n)
abbrev ak8:=L2 (bL 87) [(1,aG),(3,az),(4,az),(5,az)] [(3,az),(4,az)] [(2,jE)] (rG 2 5++rG 11 42) 0 .ret iz
abbrev YB (n:Nat):List (iU ((Int×Int)⊕Bool)):=[jN (bL 11415) [.code (bL 15511),.au 1,.code (bL 919)] [(1,aG),(3,az),(4,az),(5,az),(6,aG)] (zh n)]
def YC (n:Nat):=ak8.k TZp Tryz.f6 n (jt:=YB) (hT:=λm _=>.m3 (K3 m) (.cc .nil))
def BZ (n:Nat):aH TZp (amH n):=bf Tryz.f6 (hT:=.m2 (K3 n) (.cc (YC n) .nil))
def w4:uI (Sl->Sl->Int->Int->M (Unit⊕Bool)):=λG n a0 a1 a2 a3=>if decide (a3<a2) then iX a0 a3 1 λx0=>iX a1 a3 1 λx1=>eI x0 λx2=>eI x1 λx3=>if !decide (x2=x3) then AI (Sum.inr false) else G a0 a1 a2 (i64.wrap (a3+1)) else AI (Sum.inl ())
def rB:=lp w4
def o0 (n:Nat)(a0 a1:Sl):M Bool:=if !decide ((↑a0.len:Int)=(↑a1.len:Int)) then AI false else sh (rB n a0 a1 (↑a0.len:Int) 0) (dU (λx0=>AI true) (λx0=>AI x0))
abbrev afg (n:Nat):dV:=eN 20 [cp,cp] [jE] (o0 n)
abbrev aht:=L2 [0,1,0,1,1] [(0,cp),(1,cp),(12,az),(13,az)] [] [(4,jE)] ([4,5]++rG 13 13) 0 .ret rB
def YD:=dR [(6,[0,1,2,4,5,6,3,7,8])]
def U6 (n:Nat):=aht.k TZp Tryz.f20 n (dr:=YD) (hT:=λm _=>.m1 (K3 m))
def yp (n:Nat):aH TZp (afg n):=bf Tryz.f20 (dr:=YD) (hT:=.m2 (K3 n) (.cc (U6 n) .nil))
def tM (n:Nat)(x:ο)(a0:Int):M Unit:=if rN oL x then sh (qq [aG,aG,aG] x) λ(c:Addr×Addr×Addr)=>jx n a0 c.1 c.2.1 c.2.2 else AS
def ov (n:Nat)(a0:Sl×Int)(a1:Int)(a2:Sl):M Unit:=nW ah [aC a0.1,vi a0.2] λx0=>nW BC [aC a2] λx1=>nW yW [Value.nilFunc] λx2=>sN (ak x2) [.func (Fn.func oL) #[] #[.pointer (some (ak x1)),.pointer (some (ak x0)),.pointer (some (ak x2))]] λx3=>sh (eU .raw (ak x2)) λ(x4:ο)=>sh (tM n x4 a1) λx5=>AI ()
abbrev afh (n:Nat):dV:=eN 29 [.agg [.sl,.int .i64],az,cp] [] (ov n)
abbrev ahu (n:Nat):List rF:=[dN 8 [az] [] (tM n)]
def ahv (n:Nat):qU TZp (ahu n):=.cons (di (.cons (oT [aG,aG,aG] (CV n)) .nil)) .nil
def Fe (n:Nat):aH TZp (afh n):=bf Tryz.f29 (hT:=⟨.nil,K3 n,(ahv n),.nil,.nil⟩)
abbrev C4 (n:Nat):List dV:=ae3 n::ae4 n::ae5 n::ae6 n::ae7 n::ae8 n::Ym n::Yn n::Yo n::Yp n::Yq n::Yr n::ae9 n::afa n::Yv n::Yw n::Yx n::Yy n::afb n::afc n::afd n::afe n::aff n::afg n::afh n::C3 n
def K4 (n:Nat):eY TZp (C4 n):=.cons (E9 n) (.cons (Jt n) (.cons (Gj n) (.cons (Gk n) (.cons (Fa n) (.cons (AP n) (.cons (BX n) (.cons (Ac n) (.cons (Ju n) (.cons (xk n) (.cons (Jv n) (.cons (H6 n) (.cons (Gl n) (.cons (Ox n) (.cons (Gn n) (.cons (Fc n) (.cons (mA n) (.cons (yo n) (.cons (rH n) (.cons (w3 n) (.cons (u5 n) (.cons (zg n) (.cons (xJ n) (.cons (yp n) (.cons (Fe n) (K3 n)))))))))))))))))))))))))
abbrev xl:=Addr->Addr->ζ->Int->Int->M (Unit⊕Bool)
def o5 (G:xl)(n:Nat)(a0 a1:Addr)(a2:ζ)(a3 a4 a5:Int):M (Unit⊕Bool):=sh (kE a2 a3) λx0=>lS a1 1 λx1=>iX x1 (i64.wrap (i64.wrap ((↑a2.size:Int)-1)-a3)) 1 λx2=>sN x2 [.int IntKind.u8 (IntKind.u8.wrap ((↑x0.toNat:Int)-48))] λx3=>G a0 a1 a2 a4 (i64.wrap (a5+1))
def sF:uI (xl):=λG n a0 a1 a2 a3 a4=>if decide (a4<a3) then sh (kE a2 a4) λx0=>if decide ((↑x0.toNat:Int)<48) then sN a0 [.bool false,aI] λx1=>AI (Sum.inr false) else sh (kE a2 a4) λx1=>if decide (57<(↑x1.toNat:Int)) then sN a0 [.bool false,aI] λx2=>AI (Sum.inr false) else o5 G n a0 a1 a2 a4 a3 a4 else AI (Sum.inl ())
def kR:=lp sF
theorem AZ (n:Nat):kR (n+1)=sF (kR n) n:=rfl
def Da (n:Nat):=o5 (kR n) n
def kS (n:Nat)(a0 a1:Addr)(a2:ζ):M ((Bool×Sl)×Bool):=sh (Ap none gT [.int IntKind.u8 0] (↑a2.size:Int) (↑a2.size:Int)) λx0=>sN (a1.plus 1) [aC x0] λx1=>sh (kR n a0 a1 a2 (↑a2.size:Int) 0) (dU (λx2=>lS a1 1 λx3=>sh (yZ n x3) λx4=>sN (a1.plus 1) [aC x4] λx5=>sh (bK [.bool,.sl] a1) λ(x6:Bool×Sl)=>sN a0 [.bool x6.1,aC x6.2] λx7=>sh (bK [.bool,.sl] a0) λ(x8:Bool×Sl)=>AI ((x8.1,x8.2),true)) (λx2=>sh (bK [.bool,.sl] a0) λ(x3:Bool×Sl)=>AI ((x3.1,x3.2),x2)))
def jz (n:Nat)(a0:ζ)(a1 a2:Addr)(a3:ζ):M ((Bool×Sl)×Bool):=if decide ((↑a3.size:Int)=0) then sN a1 [.bool false,aI] λx0=>sh (bK [.bool,.sl] a1) λ(x1:Bool×Sl)=>AI ((x1.1,x1.2),false) else if decide (400<(↑a3.size:Int)) then sN a1 [.bool false,aI] λx0=>sh (bK [.bool,.sl] a1) λ(x1:Bool×Sl)=>AI ((x1.1,x1.2),false) else sh (kE a3 0) λx0=>if decide ((↑x0.toNat:Int)=48) then if decide (1<(↑a0.size:Int)) then sN a1 [.bool false,aI] λx1=>sh (bK [.bool,.sl] a1) λ(x2:Bool×Sl)=>AI ((x2.1,x2.2),false) else kS n a1 a2 a3 else kS n a1 a2 a3
def pS (n:Nat)(a0:ζ):M ((Bool×Sl)×Bool):=nW aF [.bool false,aI] λx0=>nW aF [.bool false,aI] λx1=>sN (ak x1) [.bool false,aI] λx2=>if decide (1<(↑a0.size:Int)) then sh (kE a0 0) λx3=>if decide ((↑x3.toNat:Int)=45) then sN ((ak x1).plus 0) [.bool true] λx4=>sh (iF a0 1 (↑a0.size:Int)) λx5=>jz n a0 (ak x0) (ak x1) x5 else jz n a0 (ak x0) (ak x1) a0 else jz n a0 (ak x0) (ak x1) a0
abbrev afi (n:Nat):dV:=eN 68 [qe] [.agg [.bool,.sl],jE] (pS n)
abbrev ahw:=L2 (bL 703) [(2,aG),(4,aG),(5,qe),(44,az),(45,az)] [] [(3,jE)] ([3,6]++rG 45 27) 0 .ret kR
def YE:=dR [(14,[0]++rG 2 9++[1,11,12])]
abbrev U7 (n:Nat):List (iU (Unit⊕Bool)):=[jN (bL 117951) [.au 1,.code (bL 15551)] [(2,aG),(4,aG),(5,qe),(6,az),(44,az),(45,az)] (Da n)]
abbrev ahx (n:Nat):List (iU ((Bool×Sl)×Bool)):=[jN (bL 79) [.code (bL 111),.code [1,1,1,1,1]] [(0,qe),(2,aG),(4,aG),(5,qe)] (jz n), jN (bL 95) [.code (bL 127)] [(2,aG),(4,aG),(5,qe)] (kS n)]
def U8 (n:Nat):=ahw.k TZp Tryz.f68 n (dr:=YE) (jt:=U7) (hT:=λm _=>.m3 (K4 m) (.cc .nil))
def Gp (n:Nat):aH TZp (afi n):=bf Tryz.f68 (dr:=YE) (js:=ahx n) (hT:=⟨.nil,K4 n,.nil,(.cc (U8 n) .nil),(.cc (.cc .nil))⟩)
def pT (n:Nat)(a0:Bool×Sl×Int):M ζ:=nW bu [.bool a0.1,aC a0.2.1,vi a0.2.2] λx0=>lS (ak x0) 1 λx1=>if decide ((↑x1.len:Int)=0) then AI (ofBytes [48]) else sh (bK [.bool,.sl,li] (ak x0)) λ(x2:Bool×Sl×Int)=>sh (bK [.bool,.sl,li] (ak x0)) λ(x3:Bool×Sl×Int)=>sh (uC [some (ak x0)] (pR n (x2.1,x2.2.1,x2.2.2))) λx4=>sh (nh n (x3.1,x3.2.1,x3.2.2)) λx5=>sh (kK x4 x5) λx6=>AI x6
abbrev YF (n:Nat):dV:=eN 124 [.agg [.bool,.sl,.int .i64]] [qe] (pT n)
def acK:=dR [(3,[0,2,3001,3,4,5])]
def B0 (n:Nat):aH TZp (YF n):=bf Tryz.f124 (dr:=acK) (hT:=.m1 (K4 n))
def H7 (n:Nat):M (Nat):=sh (bA n 9221120237041090561) λx0=>AI x0
abbrev afj (n:Nat):dV:=eN 97 [] [.one (.f64)] (H7 n)
def Oy (n:Nat):aH TZp (afj n):=bf Tryz.f97 (hT:=.m1 (K4 n))
def uK (n:Nat)(a0:Int):M (Nat):=if decide (0<=a0) then sh (bA n 9218868437227405312) λx0=>AI x0 else sh (bA n 18442240474082181120) λx0=>AI x0
abbrev afk (n:Nat):dV:=eN 98 [az] [.one (.f64)] (uK n)
def Oz (n:Nat):aH TZp (afk n):=bf Tryz.f98 (hT:=.m1 (K4 n))
def oN (n:Nat)(a0 a1:ζ):M (ζ×ζ×Bool):=sh (jF n a0 a1) λx0=>if decide (0<=x0) then sh (iF a0 0 x0) λx1=>sh (iF a0 (i64.wrap (x0+(↑a1.size:Int))) (↑a0.size:Int)) λx2=>AI (x1,x2,true) else AI (a0,(ofBytes []),false)
abbrev YG (n:Nat):dV:=eN 128 [qe,qe] [qe,qe,jE] (oN n)
def acL:=dR [(3,rG 0 12)]
def A0 (n:Nat):aH TZp (YG n):=bf Tryz.f128 (dr:=acL) (hT:=.m1 (K4 n))
def o6 (n:Nat)(a0 a1:Int):M Bool:=sh (gf n a0) λx0=>sh (pI (decide (2≠0))) λx1=>if decide (a0.tmod 2=1) then if decide (x0<=53) then if decide (-1074<=a1) then if decide (a1<=1023) then AI (decide (i64.wrap (a1+x0)<=1024)) else AI false else AI false else AI false else AI false
abbrev YH (n:Nat):dV:=eN 101 [.one (.int .u64),az] [jE] (o6 n)
def H8 (n:Nat):aH TZp (YH n):=bf Tryz.f101 (hT:=.m1 (K4 n))
def jS (n a0 a1:Nat):M (Nat):=sh (bX n a0) λx0=>sh (bX n a1) λx1=>sh (bA n (IntKind.u64.wrap (↑(BitVec.ofInt 64 (IntKind.u64.wrap (↑(BitVec.ofInt 64 x0&&&~~~BitVec.ofInt 64 9223372036854775808).toNat:Int))|||BitVec.ofInt 64 (IntKind.u64.wrap (↑(BitVec.ofInt 64 x1&&&BitVec.ofInt 64 9223372036854775808).toNat:Int))).toNat:Int))) λx2=>AI x2
abbrev YI (n:Nat):dV:=eN 104 [.one (.f64),.one (.f64)] [.one (.f64)] (jS n)
def Ff (n:Nat):aH TZp (YI n):=bf Tryz.f104 (hT:=.m1 (K4 n))
def qw (n a0:Nat):M (Nat):=sh (bX n a0) λx0=>sh (bA n (IntKind.u64.wrap (↑(BitVec.ofInt 64 x0&&&~~~BitVec.ofInt 64 9223372036854775808).toNat:Int))) λx1=>AI x1
abbrev YJ (n:Nat):dV:=eN 160 [.one (.f64)] [.one (.f64)] (qw n)
def OA (n:Nat):aH TZp (YJ n):=bf Tryz.f160 (hT:=.m1 (K4 n))
def lu (n a0:Nat):M Bool:=sh (bX n a0) λx0=>AI (decide (i64.wrap x0<0))
abbrev YK (n:Nat):dV:=eN 132 [.one (.f64)] [jE] (lu n)
def Gq (n:Nat):aH TZp (YK n):=bf Tryz.f132 (hT:=.m1 (K4 n))
def qZ (n:Nat)(a0 a1:Int):M ζ:=sh (gE n a0 a1) λx0=>AI x0
abbrev YL (n:Nat):dV:=eN 135 [.one (.int .u64),az] [qe] (qZ n)
def Ae (n:Nat):aH TZp (YL n):=bf Tryz.f135 (hT:=.m1 (K4 n))
def j9 (n:Nat)(x:ο)(a0:Int):M (Int×Bool):=if rN pO x then sh (qq [aG,aG] x) λ(c:Addr×Addr)=>oY n a0 c.1 c.2 else AS
abbrev vo:=Sl->Int->Int->Addr->Addr->Addr->Int->Int->M (Unit⊕Bool)
def ef (G:vo)(n:Nat)(a0:Sl)(a1 a2:Int)(a3 a4 a5:Addr)(a6 a7 a8 a9:Int):M (Unit⊕Bool):=sh (eU .raw a5) λ(x0:ο)=>sh (j9 n x0 a7) λx1=>if !x1.2 then AI (Sum.inr false) else iX a0 a6 1 λx2=>sN x2 [vi x1.1] λx3=>G a0 a1 a2 a3 a4 a5 a8 (i64.wrap (a9+1))
def jH:uI (vo):=λG n a0 a1 a2 a3 a4 a5 a6 a7=>if decide (a7<a6) then if decide (0<a7) then eI a3 λx0=>eT a4 λx1=>if decide ((↑(ByteArray.size x1):Int)<=x0) then AI (Sum.inr false) else eT a4 λx2=>eI a3 λx3=>sh (kE x2 x3) λx4=>if !decide ((↑x4.toNat:Int)=a2) then AI (Sum.inr false) else eI a3 λx5=>sN a3 [vi (i64.wrap (x5+1))] λx6=>if decide (a7=0) then ef G n a0 a1 a2 a3 a4 a5 a7 a1 a6 a7 else ef G n a0 a1 a2 a3 a4 a5 a7 2 a6 a7 else if decide (a7=0) then ef G n a0 a1 a2 a3 a4 a5 a7 a1 a6 a7 else ef G n a0 a1 a2 a3 a4 a5 a7 2 a6 a7 else AI (Sum.inl ())
def ie:=lp jH
def A3 (n:Nat):=ef (ie n) n
def iY (n:Nat)(a0:Sl)(a1 a2:Int)(a3 a4 a5:Addr):M Bool:=sh (ie n a0 a1 a2 a3 a4 a5 (↑a0.len:Int) 0) (dU (λx0=>AI true) (λx0=>AI x0))
abbrev YM (n:Nat):dV:=eN 107 [cp,az,.one (.int .u8),aG,aG,aG] [jE] (iY n)
abbrev acM:=L2 [0,1,0,1] [(0,cp),(1,az),(2,.one (.int .u8)),(3,aG),(4,aG),(5,aG),(15,az),(16,az)] [] [(9,jE)] (rG 9 5++rG 16 34) 0 .ret ie
abbrev acN (n:Nat):List rF:=[dN 38 [az] [az,jE] (j9 n)]
abbrev QH (n:Nat):List (iU (Unit⊕Bool)):=[jN (bL 24165) [.code (bL 32357),.au 1,.code (bL 485)] [(0,cp),(1,az),(2,.one (.int .u8)),(3,aG),(4,aG),(5,aG),(10,az),(11,az),(15,az),(16,az)] (A3 n)]
def Sx (n:Nat):qU TZp (acN n):=.cons (di (.cons (oT [aG,aG] (xk n)) .nil)) .nil
def QI (n:Nat):=acM.k TZp Tryz.f107 n (jt:=QH) (hT:=λm _=>⟨.nil,K4 m,(Sx m),.nil,(.cc .nil)⟩)
def oO (n:Nat):aH TZp (YM n):=bf Tryz.f107 (hT:=⟨.nil,K4 n,(Sx n),(.cc (QI n) .nil),.nil⟩)
def nu (n:Nat)(a0 a1:Int):M Int:=nW H4 [vi 0,vi 0,vi 0,vi 0,vi 0,vi 0,vi 0,vi 0,vi 0,vi 0,vi 0,vi 0,vi 0] λx0=>sN (ak x0) [vi 0,vi 31,vi 28,vi 31,vi 30,vi 31,vi 30,vi 31,vi 31,vi 30,vi 31,vi 30,vi 31] λx1=>if decide (a1=2) then sh (y7 n a0) λx2=>if x2 then AI 29 else sh (pI (decide (0<=a1/\a1<(↑13:Int)))) λx3=>sh (eU li ((ak x0).plus (a1.toNat*1))) λ(x4:Int)=>AI x4 else sh (pI (decide (0<=a1/\a1<(↑13:Int)))) λx2=>sh (eU li ((ak x0).plus (a1.toNat*1))) λ(x3:Int)=>AI x3
abbrev YN (n:Nat):dV:=eN 137 [az,az] [az] (nu n)
def Gr (n:Nat):aH TZp (YN n):=bf Tryz.f137 (hT:=.m1 (K4 n))
def jT (n:Nat)(a0 a1:Int):M ζ:=sh (strconv_Itoa n a0) λx0=>sh (strings_Repeat n (ofBytes [48]) (if 0<i64.wrap (a1-(↑(ByteArray.size x0):Int)) then i64.wrap (a1-(↑(ByteArray.size x0):Int)) else 0)) λx1=>sh (kK x1 x0) λx2=>AI x2
abbrev YO (n:Nat):dV:=eN 139 [az,az] [qe] (jT n)
def H9 (n:Nat):aH TZp (YO n):=bf Tryz.f139 (hT:=.m1 (K4 n))
def tN:uI (Addr->ν->Int->Addr->Sl->Int->Int->Sl->Int->Int->Sl->Int->Int->M (Unit⊕Bool)):=λG n a0 a1 a2 a3 a4 a5 a6 a7 a8 a9 a10 a11 a12=>if decide (a12<a11) then iX a10 a12 1 λx0=>eI x0 λx1=>gL a0 λx2=>sh (jy n (x2.1,x2.2) a2 x1) λx3=>if x3 then AI (Sum.inr true) else G a0 a1 a2 a3 a4 a5 a6 a7 a8 a9 a10 a11 (i64.wrap (a12+1)) else AI (Sum.inl ())
def o7:=lp tN
theorem B3 (n:Nat):o7 (n+1)=tN (o7 n) n:=rfl
def tO:uI (Addr->ν->Sl->Int->Int->Sl->Int->Int->M (Unit⊕Bool)):=λG n a0 a1 a2 a3 a4 a5 a6 a7=>if decide (a7<a6) then iX a5 a7 1 λx0=>eI x0 λx1=>sh (eA 15) λx2=>lS a0 0 λx3=>iX x3 x1 5 λx4=>lI x4 0 λx5=>lS a0 0 λx6=>iX x6 x1 5 λx7=>lT x7 1 λx8=>sh (iB (some (x2+13)) aE [vi 0,.string (ofBytes [])]) λx9=>sN (ak x9) [vi x5,.string x8] λx10=>sh (bK [li,.str] (ak x9)) λ(x11:Int×ζ)=>sh (zJ aE (Ty.one .sl) pH a1 (Value.agg #[vi x11.1,.string x11.2])) λ(x12:Bool×Sl)=>sh (o7 n a0 a1 x1 (ak x9) a2 a3 a4 a5 a6 a7 x12.2 (↑x12.2.len:Int) 0) (dU (λx13=>sh (bK [li,.str] (ak x9)) λ(kH:Int×ζ)=>sh (yI aE (Ty.one .sl) pH a1 (Value.agg #[vi kH.1,.string kH.2])) λx15=>sh (app false x15.1 1 av 1 [vi x1]) λrJ=>sh (yJ a1 (↑x15.2:Int) (aC rJ)) λx17=>G a0 a1 a2 a3 a4 a5 a6 (i64.wrap (a7+1))) (λx13=>AI (Sum.inr x13))) else AI (Sum.inl ())
def mB:=lp tO
theorem B4 (n:Nat):mB (n+1)=tO (mB n) n:=rfl
def tP:uI (Addr->Sl->Int->Int->M (Unit⊕Bool)):=λG n a0 a1 a2 a3=>if decide (a3<a2) then iX a1 a3 5 λx0=>nL x0 λx1=>nW ar [vi 0,.string (ofBytes []),.bool false,aI,aI] λx2=>sN (ak x2) [vi x1.1,.string x1.2.1,.bool x1.2.2.1,aC x1.2.2.2.1,aC x1.2.2.2.2] λx3=>sh (DO aE) λx4=>lS (ak x2) 3 λx5=>sh (mB n a0 (some x4) a1 a2 a3 x5 (↑x5.len:Int) 0) (dU (λx6=>G a0 a1 a2 (i64.wrap (a3+1))) (λx6=>AI (Sum.inr x6))) else AI (Sum.inl ())
def mC:=lp tP
theorem B5 (n:Nat):mC (n+1)=tP (mC n) n:=rfl
def xm (n:Nat)(a0:Sl×Int):M Bool:=nW ah [aC a0.1,vi a0.2] λx0=>lS (ak x0) 0 λx1=>sh (mC n (ak x0) x1 (↑x1.len:Int) 0) (dU (λx2=>AI false) (λx2=>AI x2))
abbrev afl (n:Nat):dV:=eN 33 [.agg [.sl,.int .i64]] [jE] (xm n)
abbrev ahy:=L2 [0,1,0,1] [(1,aG),(12,cp),(13,az),(14,az)] [] [(2,jE)] ([2,4,5,7,8,10]++rG 14 48) 0 .ret mC
abbrev ahz:=L2 (bL 11877) [(1,aG),(5,tyM),(12,cp),(13,az),(14,az),(20,cp),(21,az),(22,az)] [] [(2,jE)] ([2,7,8,10]++rG 22 39) 2 .ret mB
abbrev ahA:=L2 (bL 11325029) [(1,aG),(5,tyM),(7,az),(8,aG),(12,cp),(13,az),(14,az),(20,cp),(21,az),(22,az),(41,cp),(42,az),(43,az)] [] [(2,jE)] ([2,10]++rG 43 9) 4 .ret o7
def LU:=dR [(8,[0,2,6,8,1,3,4,5,7]++rG 9 6)]
def U9 (n:Nat):=ahA.k TZp Tryz.f33 n (dr:=LU) (hT:=λm _=>.m1 (K4 m))
def Va (n:Nat):=ahz.k TZp Tryz.f33 n (dr:=LU) (hT:=λm _=>.m2 (K4 m) (.cc (U9 m) .nil))
def Vb (n:Nat):=ahy.k TZp Tryz.f33 n (dr:=LU) (hT:=λm _=>.m2 (K4 m) (.cc (Va m) .nil))
def Ia (n:Nat):aH TZp (afl n):=bf Tryz.f33 (dr:=LU) (hT:=.m2 (K4 n) (.cc (Vb n) .nil))
def o8 (n:Nat)(x:ο)(a0:Int):M Unit:=if rN lh x then sh (qq [aG,aG,aG,aG,aG,aG,aG,aG,aG] x) λ(c:Addr×Addr×Addr×Addr×Addr×Addr×Addr×Addr×Addr)=>gw n a0 c.1 c.2.1 c.2.2.1 c.2.2.2.1 c.2.2.2.2.1 c.2.2.2.2.2.1 c.2.2.2.2.2.2.1 c.2.2.2.2.2.2.2.1 c.2.2.2.2.2.2.2.2 else AS
def oD:uI (Addr->Int->Addr->Addr->Addr->Int->Int->M Unit):=λG n a0 a1 a2 a3 a4 a5 a6=>if decide (a6<a5) then eS a4 λx0=>iX x0 a6 1 λx1=>sN x1 [vi (-1)] λx2=>G a0 a1 a2 a3 a4 a5 (i64.wrap (a6+1)) else AI ()
def jI:=lp oD
theorem xL (n:Nat):jI (n+1)=oD (jI n) n:=rfl
def pU (n:Nat)(a0:Sl×Int):M (Sl×Sl):=nW ah [aC a0.1,vi a0.2] λx0=>lS (ak x0) 0 λx1=>sh (eA 12) λx2=>sh (Ap (some (x2+1)) av [vi 0] (↑x1.len:Int) (↑x1.len:Int)) λx3=>sh (Ap (some (x2+3)) av [vi 0] (↑x1.len:Int) (↑x1.len:Int)) λx4=>sh (Ap (some (x2+5)) av [vi 0] (↑x1.len:Int) (↑x1.len:Int)) λx5=>sh (iB (some (x2+6)) aJ [aI]) λx6=>sh (iB (some (x2+7)) aJ [aI]) λx7=>sh (iB (some (x2+8)) aJ [aI]) λx8=>sh (Hj [x2+3,x2+5] (ak x6) (uC [none,none] (rE (ak x6) [aC x3]))) λx9=>sh (Hj [x2+5] (ak x7) (uC [none] (rE (ak x7) [aC x4]))) λx10=>sN (ak x8) [aC x5] λx11=>sh (eU .sl (ak x8)) λ(x12:Sl)=>sh (jI n (ak x0) (↑x1.len:Int) (ak x6) (ak x7) (ak x8) (↑x12.len:Int) 0) λx13=>nW aJ [aI] λkH=>nW aJ [aI] λx15=>sh (Ap none xH [.bool false] (↑x1.len:Int) (↑x1.len:Int)) λrJ=>nW BC [aI] λx17=>sN (ak x17) [aC rJ] λxa=>nW av [vi 0] λx19=>sN (ak x19) [vi 0] λx20=>nW yW [Value.nilFunc] λx21=>sN (ak x21) [.func (Fn.func lh) #[] #[.pointer (some (ak x19)),.pointer (some (ak x6)),.pointer (some (ak x7)),.pointer (some (ak x15)),.pointer (some (ak x17)),.pointer (some (ak x21)),.pointer (some (ak x0)),.pointer (some (ak kH)),.pointer (some (ak x8))]] λx22=>sh (eU .raw (ak x21)) λ(x23:ο)=>lI (ak x0) 1 λx24=>sh (o8 n x23 x24) λx25=>sh (eU .sl (ak x8)) λ(x26:Sl)=>sh (eU .sl (ak kH)) λ(x27:Sl)=>AI (x26,x27)
abbrev afm (n:Nat):dV:=eN 49 [.agg [.sl,.int .i64]] [cp,cp] (pU n)
abbrev ahB:=L1 (bL 87) [(1,aG),(4,az),(5,aG),(6,aG),(7,aG),(24,az),(25,az)] [] ([8]++rG 25 7) 0 jI
abbrev ahC (n:Nat):List rF:=[dN 35 [az] [] (o8 n)]
def YP:=dR [(2,[0,2,4,1,3,5,6,7,8,6004009,6010,11]),(14,[0,2,1,3])]
def YQ (n:Nat):qU TZp (ahC n):=.cons (di (.cons (oT [aG,aG,aG,aG,aG,aG,aG,aG,aG] (Ad n)) .nil)) .nil
def Vc (n:Nat):=ahB.k TZp Tryz.f49 n (dr:=YP) (hT:=λm _=>⟨.nil,K4 m,(YQ m),.nil,.nil⟩)
def B6 (n:Nat):aH TZp (afm n):=bf Tryz.f49 (dr:=YP) (hT:=⟨.nil,K4 n,(YQ n),(.cc (Vc n) .nil),.nil⟩)
def nA (n:Nat)(x:ο)(a0:Bool×Sl×Int)(a1:Int):M Int:=if rN jM x then sh (qq [] x) λ(_:Unit)=>iW n a0 a1 else AS
def nB (n:Nat)(x:ο)(a0:Bool×Sl×Int)(a1:Int):M Int:=if rN jM x then sh (qq [] x) λ(_:Unit)=>iW n a0 a1 else AS
def mD:uI (Addr->Addr->ο->Int->Int->M (Unit⊕Int)):=λG n a0 a1 a2 a3 a4=>if decide (a4<a3) then sh (bK [.bool,.sl,li] a0) λ(x0:Bool×Sl×Int)=>sh (bK [.bool,.sl,li] a1) λ(x1:Bool×Sl×Int)=>sh (uC [some a1] (nA n a2 (x0.1,x0.2.1,x0.2.2) a4)) λx2=>sh (nB n a2 (x1.1,x1.2.1,x1.2.2) a4) λx3=>if !decide (i64.wrap (i64.wrap x2-i64.wrap x3)=0) then AI (Sum.inr (i64.wrap (i64.wrap x2-i64.wrap x3))) else G a0 a1 a2 a3 (i64.wrap (a4+1)) else AI (Sum.inl ())
def iO:=lp mD
theorem wA (n:Nat):iO (n+1)=mD (iO n) n:=rfl
def oE (n:Nat)(a0 a1:Addr):M Int:=lS a0 1 λx0=>lI a0 2 λx1=>lS a1 1 λx2=>lI a1 2 λx3=>if !decide (i64.wrap (i64.wrap (i64.wrap ((↑x0.len:Int)+x1)-(↑x2.len:Int))-x3)=0) then AI (i64.wrap (i64.wrap (i64.wrap ((↑x0.len:Int)+x1)-(↑x2.len:Int))-x3)) else lS a0 1 λx4=>lS a1 1 λx5=>sh (iO n a0 a1 (Value.func (Fn.func jM) #[] #[]) (if (↑x4.len:Int)<(↑x5.len:Int) then (↑x5.len:Int) else (↑x4.len:Int)) 0) (dU (λx6=>AI 0) (λx6=>AI x6))
def nC (n:Nat)(a0 a1:Bool×Sl×Int):M Int:=nW bu [.bool a0.1,aC a0.2.1,vi a0.2.2] λx0=>nW bu [.bool a1.1,aC a1.2.1,vi a1.2.2] λx1=>lS (ak x0) 1 λx2=>if decide ((↑x2.len:Int)=0) then lS (ak x0) 1 λx3=>lS (ak x1) 1 λx4=>AI (i64.wrap ((↑x3.len:Int)-(↑x4.len:Int))) else lS (ak x1) 1 λx3=>if decide ((↑x3.len:Int)=0) then lS (ak x0) 1 λx4=>lS (ak x1) 1 λx5=>AI (i64.wrap ((↑x4.len:Int)-(↑x5.len:Int))) else oE n (ak x0) (ak x1)
abbrev YR (n:Nat):dV:=eN 170 [.agg [.bool,.sl,.int .i64],.agg [.bool,.sl,.int .i64]] [az] (nC n)
abbrev acO:=L2 (bL 175) [(2,aG),(3,aG),(6,tL),(48,az),(49,az)] [] [(4,az)] ([4,7,8]++rG 49 18) 0 .ret iO
abbrev acP (n:Nat):List rF:=[dN 52 [.agg [.bool,.sl,.int .i64],az] [.one (.int .u8)] (nA n), dN 57 [.agg [.bool,.sl,.int .i64],az] [.one (.int .u8)] (nB n)]
def Sy:=dR [(10,[0,2,5,7,1,6,7003,4,8,9,10,11])]
abbrev acQ (n:Nat):List (iU Int):=[jN [0,0,1,1] [.code [1,0,1,1],.code [1,1,1]] [(2,aG),(3,aG)] (oE n)]
def Sz (n:Nat):qU TZp (acP n):=.cons (di (.cons (oT [] (mA n)) .nil)) (.cons (di (.cons (oT [] (mA n)) .nil)) .nil)
def QJ (n:Nat):=acO.k TZp Tryz.f170 n (dr:=Sy) (hT:=λm _=>⟨.nil,K4 m,(Sz m),.nil,.nil⟩)
def Ag (n:Nat):aH TZp (YR n):=bf Tryz.f170 (dr:=Sy) (js:=acQ n) (hT:=⟨.nil,K4 n,(Sz n),(.cc (QJ n) .nil),(.cc .nil)⟩)
def mE (n:Nat)(a0 a1:ζ):M Int:=sh (ea n a0 a1) λx0=>AI x0
abbrev YS (n:Nat):dV:=eN 144 [qe,qe] [az] (mE n)
def wB (n:Nat):aH TZp (YS n):=bf Tryz.f144 (hT:=.m1 (K4 n))
def qx (n:Nat)(a0:Int):M Int:=sh (gf n a0) λx0=>AI x0
abbrev afn (n:Nat):dV:=eN 65 [.one (.int .u64)] [az] (qx n)
def Fg (n:Nat):aH TZp (afn n):=bf Tryz.f65 (hT:=.m1 (K4 n))
def fI (n:Nat)(a0:θ):M Unit:=sh (nn a0) λx0=>sh (eU .ptr (x0.plus 0)) λ(x1:θ)=>if Option.isNone x1 then sh (nn a0) λx2=>sh (inB x2) λx3=>sh (sd n (some x3)) λx4=>sh (nn x4) λx5=>sh (atB fO 2 x5) λx6=>sh (nn a0) λx7=>sN (x7.plus 0) [.pointer (some x6)] λx8=>AI () else sh (nn a0) λx2=>sh (eU .ptr (x2.plus 0)) λ(x3:θ)=>sh (eqP x3 a0) λx4=>if !x4 then AS else AI ()
abbrev afo (n:Nat):dV:=eN 55 [vW] [] (fI n)
def u6 (n:Nat):aH TZp (afo n):=bf Tryz.f55 (hT:=.m1 (K4 n))
def Ee (n:Nat)(a0 a1:Int×ζ×Bool×Sl×Sl):M Bool:=nW ar [vi a0.1,.string a0.2.1,.bool a0.2.2.1,aC a0.2.2.2.1,aC a0.2.2.2.2] λx0=>nW ar [vi a1.1,.string a1.2.1,.bool a1.2.2.1,aC a1.2.2.2.1,aC a1.2.2.2.2] λx1=>lI (ak x0) 0 λx2=>lI (ak x1) 0 λx3=>if decide (x2=x3) then lT (ak x0) 1 λx4=>lT (ak x1) 1 λx5=>if mQ x4 x5 then lB (ak x0) 2 λx6=>lB (ak x1) 2 λx7=>if x6==x7 then lS (ak x0) 3 λx8=>lS (ak x1) 3 λx9=>sh (o0 n x8 x9) λx10=>if x10 then lS (ak x0) 4 λx11=>lS (ak x1) 4 λx12=>sh (o0 n x11 x12) λx13=>AI x13 else AI false else AI false else AI false else AI false
abbrev afp (n:Nat):dV:=eN 19 [.agg [.int .i64,.str,.bool,.sl,.sl],.agg [.int .i64,.str,.bool,.sl,.sl]] [jE] (Ee n)
def zP (n:Nat):aH TZp (afp n):=bf Tryz.f19 (hT:=.m1 (K4 n))
abbrev C5 (n:Nat):List dV:=afi n::YF n::afj n::afk n::YG n::YH n::YI n::YJ n::YK n::YL n::YM n::YN n::YO n::afl n::afm n::YR n::YS n::afn n::afo n::afp n::C4 n
def K5 (n:Nat):eY TZp (C5 n):=.cons (Gp n) (.cons (B0 n) (.cons (Oy n) (.cons (Oz n) (.cons (A0 n) (.cons (H8 n) (.cons (Ff n) (.cons (OA n) (.cons (Gq n) (.cons (Ae n) (.cons (oO n) (.cons (Gr n) (.cons (H9 n) (.cons (Ia n) (.cons (B6 n) (.cons (Ag n) (.cons (wB n) (.cons (Fg n) (.cons (u6 n) (.cons (zP n) (K4 n))))))))))))))))))))
def qy (n:Nat)(a0:ζ):M Bool:=sh (pS n a0) λx0=>nW aF [.bool false,aI] λx1=>sN (ak x1) [.bool x0.1.1,aC x0.1.2] λx2=>AI x0.2
abbrev afq (n:Nat):dV:=eN 56 [qe] [jE] (qy n)
def Fh (n:Nat):aH TZp (afq n):=bf Tryz.f56 (hT:=.m1 (K5 n))
def pV (n:Nat)(a0:Bool×Sl×Int):M ζ:=nW bu [.bool a0.1,aC a0.2.1,vi a0.2.2] λx0=>sh (bK [.bool,.sl,li] (ak x0)) λ(x1:Bool×Sl×Int)=>lI (ak x0) 2 λx2=>sh (uC [some ((ak x0).plus 2)] (pT n (x1.1,x1.2.1,x1.2.2))) λx3=>sh (kK x3 (ofBytes [101])) λx4=>sh (strconv_Itoa n x2) λx5=>sh (kK x4 x5) λx6=>AI x6
abbrev afr (n:Nat):dV:=eN 95 [.agg [.bool,.sl,.int .i64]] [qe] (pV n)
def ahD:=dR [(1,[3,0,4,5001,2,5,6,7])]
def B7 (n:Nat):aH TZp (afr n):=bf Tryz.f95 (dr:=ahD) (hT:=.m1 (K5 n))
def strings_Cut (n:Nat)(a0 a1:ζ):M (ζ×ζ×Bool):=sh (oN n a0 a1) λx0=>AI (x0.1,x0.2.1,x0.2.2)
abbrev afs (n:Nat):dV:=eN 99 [qe,qe] [qe,qe,jE] (strings_Cut n)
def Ib (n:Nat):aH TZp (afs n):=bf Tryz.f99 (hT:=.m1 (K5 n))
def nD (n a0:Nat)(a1:Int):M Bool:=if decide (a1=0) then sh (qw n a0) λx0=>AI (P0 x0 9218868437227405311) else if decide (a1<0) then AI (P0 (agu a0) 9218868437227405311) else AI (P0 a0 9218868437227405311)
abbrev YT (n:Nat):dV:=eN 133 [.one (.f64),az] [jE] (nD n)
def Jx (n:Nat):aH TZp (YT n):=bf Tryz.f133 (hT:=.m1 (K5 n))
def wC (n a0:Nat):M (Nat×Int):=sh (qw n a0) λx0=>if Xg x0 4503599627370496 then sh (Nd a0 4841369599423283200) λx1=>AI (x1,-52) else AI (a0,0)
abbrev YU (n:Nat):dV:=eN 159 [.one (.f64)] [.one (.f64),az] (wC n)
def Ef (n:Nat):aH TZp (YU n):=bf Tryz.f159 (hT:=.m1 (K5 n))
def qK (n:Nat)(a0 a1:Int):M (Int×Int):=sh (da n a0) λx0=>sh (pI (decide (0<=x0))) λx1=>AI (a0.fdiv (2^min (Int.toNat x0) 64),i64.wrap (i64.wrap (a1-1075)+x0))
def nE (n a0:Nat):M (Int×Int):=sh (qw n a0) λx0=>sh (bX n x0) λx1=>sh (pI (decide (0<=52))) λx2=>if decide (i64.wrap (Int.fdiv x1 (2^52))=0) then qK n (IntKind.u64.wrap (↑(BitVec.ofInt 64 x1&&&BitVec.ofInt 64 4503599627370495).toNat:Int)) 1 else qK n (IntKind.u64.wrap (↑(BitVec.ofInt 64 (IntKind.u64.wrap (↑(BitVec.ofInt 64 x1&&&BitVec.ofInt 64 4503599627370495).toNat:Int))|||BitVec.ofInt 64 4503599627370496).toNat:Int)) (i64.wrap (Int.fdiv x1 (2^52)))
abbrev YV (n:Nat):dV:=eN 134 [.one (.f64)] [.one (.int .u64),az] (nE n)
abbrev acR (n:Nat):List (iU (Int×Int)):=[jN [0,1,1,1,1] [.code [1,1,1,1,1]] [(5,.one (.int .u64)),(6,az)] (qK n)]
def Gt (n:Nat):aH TZp (YV n):=bf Tryz.f134 (js:=acR n) (hT:=.m3 (K5 n) (.cc .nil))
def tQ (n:Nat)(x:ο)(a0:Sl)(a1 a2:Int):M Bool:=if rN dO x then sh (qq [aG,aG,aG] x) λ(c:Addr×Addr×Addr)=>iY n a0 a1 a2 c.1 c.2.1 c.2.2 else AS
def tR (n:Nat)(x:ο)(a0:Sl)(a1 a2:Int):M Bool:=if rN dO x then sh (qq [aG,aG,aG] x) λ(c:Addr×Addr×Addr)=>iY n a0 a1 a2 c.1 c.2.1 c.2.2 else AS
def sG (n:Nat)(x:ο)(a0:Sl)(a1 a2:Int):M Bool:=if rN dO x then sh (qq [aG,aG,aG] x) λ(c:Addr×Addr×Addr)=>iY n a0 a1 a2 c.1 c.2.1 c.2.2 else AS
def lA:uI (Addr->Addr->Addr->Addr->ο->Int->M Unit):=λG n a0 a1 a2 a3 a4 a5=>if decide (a5<9) then lI a2 9 λx0=>sN (a2.plus 9) [vi (i64.wrap (x0*10))] λx1=>G a0 a1 a2 a3 a4 (i64.wrap (a5+1)) else AI ()
def n7:=lp lA
abbrev xo:=Addr->Addr->Addr->Addr->ο->Int->M Int
def o9 (G:xo)(n:Nat)(a0 a1 a2 a3:Addr)(a4:ο)(a5:Int):M Int:=lI a2 9 λx0=>eT a0 λx1=>eI a3 λx2=>sh (kE x1 x2) λx3=>sN (a2.plus 9) [vi (i64.wrap (i64.wrap (10*x0)+i64.wrap (IntKind.u8.wrap ((↑x3.toNat:Int)-48))))] λx4=>eI a3 λx5=>sN a3 [vi (i64.wrap (x5+1))] λx6=>G a0 a1 a2 a3 a4 (i64.wrap (a5+1))
def lC:uI (xo):=λG n a0 a1 a2 a3 a4 a5=>if decide (a5<9) then eI a3 λx0=>eT a0 λx1=>if decide (x0<(↑(ByteArray.size x1):Int)) then eT a0 λx2=>eI a3 λx3=>sh (kE x2 x3) λx4=>if decide (48<=(↑x4.toNat:Int)) then eT a0 λx5=>eI a3 λx6=>sh (kE x5 x6) λx7=>if decide ((↑x7.toNat:Int)<=57) then o9 G n a0 a1 a2 a3 a4 a5 else AI a5 else AI a5 else AI a5 else AI a5
def kT:=lp lC
def Db (n:Nat):=o9 (kT n) n
def qL (n:Nat)(a0 a1 a2 a3:Addr)(a4:ο):M ((J11)×Bool):=eT a0 λx0=>eI a3 λx1=>sh (kE x0 x1) λx2=>sN (a2.plus 10) [.int IntKind.u8 (↑x2.toNat:Int)] λx3=>eI a3 λx4=>sN a3 [vi (i64.wrap (x4+1))] λx5=>sh (eU (.int IntKind.u8) (a2.plus 10)) λ(x6:Int)=>if decide (x6=90) then sh (bK [li,li,li,li,li,li,li,li,li,li,.int IntKind.u8] a2) λ(x7:J11)=>eI a3 λx8=>eT a0 λx9=>sh (uC [some a3,some a0] (rE a1 [vi x7.1,vi x7.2.1,vi x7.2.2.1,vi x7.2.2.2.1,vi x7.2.2.2.2.1,vi x7.2.2.2.2.2.1,vi x7.2.2.2.2.2.2.1,vi x7.2.2.2.2.2.2.2.1,vi x7.2.2.2.2.2.2.2.2.1,vi x7.2.2.2.2.2.2.2.2.2.1,.int IntKind.u8 x7.2.2.2.2.2.2.2.2.2.2])) λx10=>sh (bK [li,li,li,li,li,li,li,li,li,li,.int IntKind.u8] a1) λ(x11:J11)=>AI ((x11.1,x11.2.1,x11.2.2.1,x11.2.2.2.1,x11.2.2.2.2.1,x11.2.2.2.2.2.1,x11.2.2.2.2.2.2.1,x11.2.2.2.2.2.2.2.1,x11.2.2.2.2.2.2.2.2.1,x11.2.2.2.2.2.2.2.2.2.1,x11.2.2.2.2.2.2.2.2.2.2),decide (x8=(↑(ByteArray.size x9):Int))) else sh (eU (.int IntKind.u8) (a2.plus 10)) λ(x7:Int)=>if !decide (x7=43) then sh (eU (.int IntKind.u8) (a2.plus 10)) λ(x8:Int)=>if !decide (x8=45) then sh (bK [li,li,li,li,li,li,li,li,li,li,.int IntKind.u8] a2) λ(x9:J11)=>sN a1 [vi x9.1,vi x9.2.1,vi x9.2.2.1,vi x9.2.2.2.1,vi x9.2.2.2.2.1,vi x9.2.2.2.2.2.1,vi x9.2.2.2.2.2.2.1,vi x9.2.2.2.2.2.2.2.1,vi x9.2.2.2.2.2.2.2.2.1,vi x9.2.2.2.2.2.2.2.2.2.1,.int IntKind.u8 x9.2.2.2.2.2.2.2.2.2.2] λx10=>sh (bK [li,li,li,li,li,li,li,li,li,li,.int IntKind.u8] a1) λ(x11:J11)=>AI ((x11.1,x11.2.1,x11.2.2.1,x11.2.2.2.1,x11.2.2.2.2.1,x11.2.2.2.2.2.1,x11.2.2.2.2.2.2.1,x11.2.2.2.2.2.2.2.1,x11.2.2.2.2.2.2.2.2.1,x11.2.2.2.2.2.2.2.2.2.1,x11.2.2.2.2.2.2.2.2.2.2),false) else sh (ow (a2.plus 1) 8 6 8 1) λx9=>sh (sG n a4 x9 2 58) λx10=>if !x10 then sh (bK [li,li,li,li,li,li,li,li,li,li,.int IntKind.u8] a2) λ(x11:J11)=>sN a1 [vi x11.1,vi x11.2.1,vi x11.2.2.1,vi x11.2.2.2.1,vi x11.2.2.2.2.1,vi x11.2.2.2.2.2.1,vi x11.2.2.2.2.2.2.1,vi x11.2.2.2.2.2.2.2.1,vi x11.2.2.2.2.2.2.2.2.1,vi x11.2.2.2.2.2.2.2.2.2.1,.int IntKind.u8 x11.2.2.2.2.2.2.2.2.2.2] λx12=>sh (bK [li,li,li,li,li,li,li,li,li,li,.int IntKind.u8] a1) λ(x13:J11)=>AI ((x13.1,x13.2.1,x13.2.2.1,x13.2.2.2.1,x13.2.2.2.2.1,x13.2.2.2.2.2.1,x13.2.2.2.2.2.2.1,x13.2.2.2.2.2.2.2.1,x13.2.2.2.2.2.2.2.2.1,x13.2.2.2.2.2.2.2.2.2.1,x13.2.2.2.2.2.2.2.2.2.2),false) else sh (bK [li,li,li,li,li,li,li,li,li,li,.int IntKind.u8] a2) λ(x11:J11)=>eI a3 λx12=>eT a0 λx13=>sh (uC [some a3,some a0] (rE a1 [vi x11.1,vi x11.2.1,vi x11.2.2.1,vi x11.2.2.2.1,vi x11.2.2.2.2.1,vi x11.2.2.2.2.2.1,vi x11.2.2.2.2.2.2.1,vi x11.2.2.2.2.2.2.2.1,vi x11.2.2.2.2.2.2.2.2.1,vi x11.2.2.2.2.2.2.2.2.2.1,.int IntKind.u8 x11.2.2.2.2.2.2.2.2.2.2])) λkH=>sh (bK [li,li,li,li,li,li,li,li,li,li,.int IntKind.u8] a1) λ(x15:J11)=>AI ((x15.1,x15.2.1,x15.2.2.1,x15.2.2.2.1,x15.2.2.2.2.1,x15.2.2.2.2.2.1,x15.2.2.2.2.2.2.1,x15.2.2.2.2.2.2.2.1,x15.2.2.2.2.2.2.2.2.1,x15.2.2.2.2.2.2.2.2.2.1,x15.2.2.2.2.2.2.2.2.2.2),decide (x12=(↑(ByteArray.size x13):Int))) else sh (ow (a2.plus 1) 8 6 8 1) λx8=>sh (sG n a4 x8 2 58) λx9=>if !x9 then sh (bK [li,li,li,li,li,li,li,li,li,li,.int IntKind.u8] a2) λ(x10:J11)=>sN a1 [vi x10.1,vi x10.2.1,vi x10.2.2.1,vi x10.2.2.2.1,vi x10.2.2.2.2.1,vi x10.2.2.2.2.2.1,vi x10.2.2.2.2.2.2.1,vi x10.2.2.2.2.2.2.2.1,vi x10.2.2.2.2.2.2.2.2.1,vi x10.2.2.2.2.2.2.2.2.2.1,.int IntKind.u8 x10.2.2.2.2.2.2.2.2.2.2] λx11=>sh (bK [li,li,li,li,li,li,li,li,li,li,.int IntKind.u8] a1) λ(x12:J11)=>AI ((x12.1,x12.2.1,x12.2.2.1,x12.2.2.2.1,x12.2.2.2.2.1,x12.2.2.2.2.2.1,x12.2.2.2.2.2.2.1,x12.2.2.2.2.2.2.2.1,x12.2.2.2.2.2.2.2.2.1,x12.2.2.2.2.2.2.2.2.2.1,x12.2.2.2.2.2.2.2.2.2.2),false) else sh (bK [li,li,li,li,li,li,li,li,li,li,.int IntKind.u8] a2) λ(x10:J11)=>eI a3 λx11=>eT a0 λx12=>sh (uC [some a3,some a0] (rE a1 [vi x10.1,vi x10.2.1,vi x10.2.2.1,vi x10.2.2.2.1,vi x10.2.2.2.2.1,vi x10.2.2.2.2.2.1,vi x10.2.2.2.2.2.2.1,vi x10.2.2.2.2.2.2.2.1,vi x10.2.2.2.2.2.2.2.2.1,vi x10.2.2.2.2.2.2.2.2.2.1,.int IntKind.u8 x10.2.2.2.2.2.2.2.2.2.2])) λx13=>sh (bK [li,li,li,li,li,li,li,li,li,li,.int IntKind.u8] a1) λ(kH:J11)=>AI ((kH.1,kH.2.1,kH.2.2.1,kH.2.2.2.1,kH.2.2.2.2.1,kH.2.2.2.2.2.1,kH.2.2.2.2.2.2.1,kH.2.2.2.2.2.2.2.1,kH.2.2.2.2.2.2.2.2.1,kH.2.2.2.2.2.2.2.2.2.1,kH.2.2.2.2.2.2.2.2.2.2),decide (x11=(↑(ByteArray.size x12):Int)))
def kU (n:Nat)(a0 a1 a2 a3:Addr)(a4:ο):M ((J11)×Bool):=eI a3 λx0=>eT a0 λx1=>if decide (x0<(↑(ByteArray.size x1):Int)) then lI a2 0 λx2=>if decide (x2=3) then qL n a0 a1 a2 a3 a4 else sh (bK [li,li,li,li,li,li,li,li,li,li,.int IntKind.u8] a2) λ(x3:J11)=>eI a3 λx4=>eT a0 λx5=>sh (uC [some a3,some a0] (rE a1 [vi x3.1,vi x3.2.1,vi x3.2.2.1,vi x3.2.2.2.1,vi x3.2.2.2.2.1,vi x3.2.2.2.2.2.1,vi x3.2.2.2.2.2.2.1,vi x3.2.2.2.2.2.2.2.1,vi x3.2.2.2.2.2.2.2.2.1,vi x3.2.2.2.2.2.2.2.2.2.1,.int IntKind.u8 x3.2.2.2.2.2.2.2.2.2.2])) λx6=>sh (bK [li,li,li,li,li,li,li,li,li,li,.int IntKind.u8] a1) λ(x7:J11)=>AI ((x7.1,x7.2.1,x7.2.2.1,x7.2.2.2.1,x7.2.2.2.2.1,x7.2.2.2.2.2.1,x7.2.2.2.2.2.2.1,x7.2.2.2.2.2.2.2.1,x7.2.2.2.2.2.2.2.2.1,x7.2.2.2.2.2.2.2.2.2.1,x7.2.2.2.2.2.2.2.2.2.2),decide (x4=(↑(ByteArray.size x5):Int))) else sh (bK [li,li,li,li,li,li,li,li,li,li,.int IntKind.u8] a2) λ(x2:J11)=>eI a3 λx3=>eT a0 λx4=>sh (uC [some a3,some a0] (rE a1 [vi x2.1,vi x2.2.1,vi x2.2.2.1,vi x2.2.2.2.1,vi x2.2.2.2.2.1,vi x2.2.2.2.2.2.1,vi x2.2.2.2.2.2.2.1,vi x2.2.2.2.2.2.2.2.1,vi x2.2.2.2.2.2.2.2.2.1,vi x2.2.2.2.2.2.2.2.2.2.1,.int IntKind.u8 x2.2.2.2.2.2.2.2.2.2.2])) λx5=>sh (bK [li,li,li,li,li,li,li,li,li,li,.int IntKind.u8] a1) λ(x6:J11)=>AI ((x6.1,x6.2.1,x6.2.2.1,x6.2.2.2.1,x6.2.2.2.2.1,x6.2.2.2.2.2.1,x6.2.2.2.2.2.2.1,x6.2.2.2.2.2.2.2.1,x6.2.2.2.2.2.2.2.2.1,x6.2.2.2.2.2.2.2.2.2.1,x6.2.2.2.2.2.2.2.2.2.2),decide (x3=(↑(ByteArray.size x4):Int)))
def qM (n:Nat)(a0 a1 a2 a3:Addr)(a4:ο):M ((J11)×Bool):=eI a3 λx0=>sN a3 [vi (i64.wrap (x0+1))] λx1=>sh (kT n a0 a1 a2 a3 a4 0) λx2=>if decide (x2=0) then sh (bK [li,li,li,li,li,li,li,li,li,li,.int IntKind.u8] a2) λ(x3:J11)=>sN a1 [vi x3.1,vi x3.2.1,vi x3.2.2.1,vi x3.2.2.2.1,vi x3.2.2.2.2.1,vi x3.2.2.2.2.2.1,vi x3.2.2.2.2.2.2.1,vi x3.2.2.2.2.2.2.2.1,vi x3.2.2.2.2.2.2.2.2.1,vi x3.2.2.2.2.2.2.2.2.2.1,.int IntKind.u8 x3.2.2.2.2.2.2.2.2.2.2] λx4=>sh (bK [li,li,li,li,li,li,li,li,li,li,.int IntKind.u8] a1) λ(x5:J11)=>AI ((x5.1,x5.2.1,x5.2.2.1,x5.2.2.2.1,x5.2.2.2.2.1,x5.2.2.2.2.2.1,x5.2.2.2.2.2.2.1,x5.2.2.2.2.2.2.2.1,x5.2.2.2.2.2.2.2.2.1,x5.2.2.2.2.2.2.2.2.2.1,x5.2.2.2.2.2.2.2.2.2.2),false) else sh (n7 n a0 a1 a2 a3 a4 x2) λx3=>kU n a0 a1 a2 a3 a4
def gh (n:Nat)(a0 a1 a2 a3:Addr)(a4:ο):M ((J11)×Bool):=sh (ow (a2.plus 1) 8 3 6 1) λx0=>sh (tR n a4 x0 2 58) λx1=>if !x1 then sh (bK [li,li,li,li,li,li,li,li,li,li,.int IntKind.u8] a2) λ(x2:J11)=>sN a1 [vi x2.1,vi x2.2.1,vi x2.2.2.1,vi x2.2.2.2.1,vi x2.2.2.2.2.1,vi x2.2.2.2.2.2.1,vi x2.2.2.2.2.2.2.1,vi x2.2.2.2.2.2.2.2.1,vi x2.2.2.2.2.2.2.2.2.1,vi x2.2.2.2.2.2.2.2.2.2.1,.int IntKind.u8 x2.2.2.2.2.2.2.2.2.2.2] λx3=>sh (bK [li,li,li,li,li,li,li,li,li,li,.int IntKind.u8] a1) λ(x4:J11)=>AI ((x4.1,x4.2.1,x4.2.2.1,x4.2.2.2.1,x4.2.2.2.2.1,x4.2.2.2.2.2.1,x4.2.2.2.2.2.2.1,x4.2.2.2.2.2.2.2.1,x4.2.2.2.2.2.2.2.2.1,x4.2.2.2.2.2.2.2.2.2.1,x4.2.2.2.2.2.2.2.2.2.2),false) else lI a2 0 λx2=>sN (a2.plus 0) [vi (i64.wrap (x2+2))] λx3=>eI a3 λx4=>eT a0 λx5=>if decide (x4<(↑(ByteArray.size x5):Int)) then eT a0 λx6=>eI a3 λx7=>sh (kE x6 x7) λx8=>if decide ((↑x8.toNat:Int)=46) then qM n a0 a1 a2 a3 a4 else kU n a0 a1 a2 a3 a4 else kU n a0 a1 a2 a3 a4
def n8 (n:Nat)(a0 a1 a2 a3:Addr)(a4:ο):M ((J11)×Bool):=sh (ow (a2.plus 1) 8 0 3 1) λx0=>sh (tQ n a4 x0 4 45) λx1=>if !x1 then sh (bK [li,li,li,li,li,li,li,li,li,li,.int IntKind.u8] a2) λ(x2:J11)=>sN a1 [vi x2.1,vi x2.2.1,vi x2.2.2.1,vi x2.2.2.2.1,vi x2.2.2.2.2.1,vi x2.2.2.2.2.2.1,vi x2.2.2.2.2.2.2.1,vi x2.2.2.2.2.2.2.2.1,vi x2.2.2.2.2.2.2.2.2.1,vi x2.2.2.2.2.2.2.2.2.2.1,.int IntKind.u8 x2.2.2.2.2.2.2.2.2.2.2] λx3=>sh (bK [li,li,li,li,li,li,li,li,li,li,.int IntKind.u8] a1) λ(x4:J11)=>AI ((x4.1,x4.2.1,x4.2.2.1,x4.2.2.2.1,x4.2.2.2.2.1,x4.2.2.2.2.2.1,x4.2.2.2.2.2.2.1,x4.2.2.2.2.2.2.2.1,x4.2.2.2.2.2.2.2.2.1,x4.2.2.2.2.2.2.2.2.2.1,x4.2.2.2.2.2.2.2.2.2.2),false) else sN (a2.plus 0) [vi 1] λx2=>eI a3 λx3=>eT a0 λx4=>if decide (x3=(↑(ByteArray.size x4):Int)) then sh (bK [li,li,li,li,li,li,li,li,li,li,.int IntKind.u8] a2) λ(x5:J11)=>sN a1 [vi x5.1,vi x5.2.1,vi x5.2.2.1,vi x5.2.2.2.1,vi x5.2.2.2.2.1,vi x5.2.2.2.2.2.1,vi x5.2.2.2.2.2.2.1,vi x5.2.2.2.2.2.2.2.1,vi x5.2.2.2.2.2.2.2.2.1,vi x5.2.2.2.2.2.2.2.2.2.1,.int IntKind.u8 x5.2.2.2.2.2.2.2.2.2.2] λx6=>sh (bK [li,li,li,li,li,li,li,li,li,li,.int IntKind.u8] a1) λ(x7:J11)=>AI ((x7.1,x7.2.1,x7.2.2.1,x7.2.2.2.1,x7.2.2.2.2.1,x7.2.2.2.2.2.1,x7.2.2.2.2.2.2.1,x7.2.2.2.2.2.2.2.1,x7.2.2.2.2.2.2.2.2.1,x7.2.2.2.2.2.2.2.2.2.1,x7.2.2.2.2.2.2.2.2.2.2),true) else eT a0 λx5=>eI a3 λx6=>sh (kE x5 x6) λx7=>if !decide ((↑x7.toNat:Int)=84) then eT a0 λx8=>eI a3 λx9=>sh (kE x8 x9) λx10=>if !decide ((↑x10.toNat:Int)=32) then sh (bK [li,li,li,li,li,li,li,li,li,li,.int IntKind.u8] a2) λ(x11:J11)=>sN a1 [vi x11.1,vi x11.2.1,vi x11.2.2.1,vi x11.2.2.2.1,vi x11.2.2.2.2.1,vi x11.2.2.2.2.2.1,vi x11.2.2.2.2.2.2.1,vi x11.2.2.2.2.2.2.2.1,vi x11.2.2.2.2.2.2.2.2.1,vi x11.2.2.2.2.2.2.2.2.2.1,.int IntKind.u8 x11.2.2.2.2.2.2.2.2.2.2] λx12=>sh (bK [li,li,li,li,li,li,li,li,li,li,.int IntKind.u8] a1) λ(x13:J11)=>AI ((x13.1,x13.2.1,x13.2.2.1,x13.2.2.2.1,x13.2.2.2.2.1,x13.2.2.2.2.2.1,x13.2.2.2.2.2.2.1,x13.2.2.2.2.2.2.2.1,x13.2.2.2.2.2.2.2.2.1,x13.2.2.2.2.2.2.2.2.2.1,x13.2.2.2.2.2.2.2.2.2.2),false) else eI a3 λx11=>sN a3 [vi (i64.wrap (x11+1))] λx12=>gh n a0 a1 a2 a3 a4 else eI a3 λx8=>sN a3 [vi (i64.wrap (x8+1))] λx9=>gh n a0 a1 a2 a3 a4
def nF (n:Nat)(a0:ζ):M ((J11)×Bool):=nW ep [.string a0] λx0=>nW bN [vi 0,vi 0,vi 0,vi 0,vi 0,vi 0,vi 0,vi 0,vi 0,vi 0,.int IntKind.u8 0] λx1=>nW bN [vi 0,vi 0,vi 0,vi 0,vi 0,vi 0,vi 0,vi 0,vi 0,vi 0,.int IntKind.u8 0] λx2=>nW av [vi 0] λx3=>sN (ak x3) [vi 0] λx4=>nW wo [Value.nilFunc] λx5=>sN (ak x5) [.func (Fn.func pO) #[] #[.pointer (some (ak x3)),.pointer (some (ak x0))]] λx6=>sh (eU .str (ak x0)) λ(x7:ζ)=>if decide (2<(↑(ByteArray.size x7):Int)) then sh (eU .str (ak x0)) λ(x8:ζ)=>sh (kE x8 2) λx9=>if !decide ((↑x9.toNat:Int)=58) then n8 n (ak x0) (ak x1) (ak x2) (ak x3) (Value.func (Fn.func dO) #[] #[.pointer (some (ak x3)),.pointer (some (ak x0)),.pointer (some (ak x5))]) else gh n (ak x0) (ak x1) (ak x2) (ak x3) (Value.func (Fn.func dO) #[] #[.pointer (some (ak x3)),.pointer (some (ak x0)),.pointer (some (ak x5))]) else gh n (ak x0) (ak x1) (ak x2) (ak x3) (Value.func (Fn.func dO) #[] #[.pointer (some (ak x3)),.pointer (some (ak x0)),.pointer (some (ak x5))])
abbrev aft (n:Nat):dV:=eN 72 [qe] [.agg [.int .i64,.int .i64,.int .i64,.int .i64,.int .i64,.int .i64,.int .i64,.int .i64,.int .i64,.int .i64,.int .u8],jE] (nF n)
abbrev ahE:=L1 (bL 39679) [(1,aG),(2,aG),(4,aG),(5,aG),(7,tL),(8,az)] [(8,az)] ([8]++rG 66 34) 0 kT
abbrev ahF:=L1 (bL 97023) [(1,aG),(2,aG),(4,aG),(5,aG),(7,tL),(8,az)] [] ([8]++rG 103 8) 2 n7
abbrev ahG (n:Nat):List rF:=[dN 19 [cp,az,.one (.int .u8)] [jE] (tQ n), dN 44 [cp,az,.one (.int .u8)] [jE] (tR n), dN 143 [cp,az,.one (.int .u8)] [jE] (sG n)]
def QK:=dR [(21,rG 0 11),(33,rG 0 5++[3002005,6]),(36,rG 0 5++[3002005,6])]
abbrev Ve (n:Nat):List (iU Int):=[jN (bL 596735) [.code (bL 858879),.au 1] [(1,aG),(2,aG),(4,aG),(5,aG),(7,tL),(8,az)] (Db n)]
abbrev ahH (n:Nat):List (iU ((J11)×Bool)):=[jN (bL 1119) [.code (bL 1631),.code (bL 863),.code (bL 127)] [(1,aG),(2,aG),(4,aG),(5,aG),(7,tL)] (n8 n), jN (bL 319) [.code (bL 447),.code (bL 255)] [(1,aG),(2,aG),(4,aG),(5,aG),(7,tL)] (gh n), jN (bL 4863) [.code (bL 6911),.code (bL 1023)] [(1,aG),(2,aG),(4,aG),(5,aG),(7,tL)] (qM n), jN (bL 2559) [.code (bL 3583),.code (bL 2047)] [(1,aG),(2,aG),(4,aG),(5,aG),(7,tL)] (kU n), jN (bL 9727) [.code (bL 13823),.code (bL 2047)] [(1,aG),(2,aG),(4,aG),(5,aG),(7,tL)] (qL n)]
def QL (n:Nat):qU TZp (ahG n):=.cons (di (.cons (oT [aG,aG,aG] (oO n)) .nil)) (.cons (di (.cons (oT [aG,aG,aG] (oO n)) .nil)) (.cons (di (.cons (oT [aG,aG,aG] (oO n)) .nil)) .nil))
def Vf (n:Nat):=ahF.k TZp Tryz.f72 n (dr:=QK) (hT:=λm _=>⟨.nil,K5 m,(QL m),.nil,.nil⟩)
def Vg (n:Nat):=ahE.k TZp Tryz.f72 n (dr:=QK) (jt:=Ve) (hT:=λm _=>⟨.nil,K5 m,(QL m),.nil,(.cc .nil)⟩)
def Gu (n:Nat):aH TZp (aft n):=bf Tryz.f72 (dr:=QK) (js:=ahH n) (hT:=⟨.nil,K5 n,(QL n),(.cc (Vg n) (.cc (Vf n) .nil)),(.cc (.cc (.cc (.cc (.cc .nil)))))⟩)
def n9:uI (Int->Int->Int->Int->M Int):=λG n a0 a1 a2 a3=>if decide (a3<a1) then sh (nu n a0 a3) λx0=>G a0 a1 (i64.wrap (a2+x0)) (i64.wrap (a3+1)) else AI a2
def jU:=lp n9
theorem re (n:Nat):jU (n+1)=n9 (jU n) n:=rfl
def Cq (n:Nat)(a0 a1 a2:Int):M (Int×Int):=sh (uJ n a0) λx0=>sh (jU n a0 a1 (i64.wrap (i64.wrap (i64.wrap (x0+a2)-1)-719528)) 1) λx1=>AI (x1,0)
def zi (n:Nat)(a0 a1 a2:Int):M (Int×Int):=if decide (a0<0) then AI (0,13) else if decide (9999<a0) then AI (0,13) else if decide (a1<1) then AI (0,13) else if decide (12<a1) then AI (0,13) else if decide (a2<1) then AI (0,13) else sh (nu n a0 a1) λx0=>if decide (x0<a2) then AI (0,13) else Cq n a0 a1 a2
abbrev YW (n:Nat):dV:=eN 108 [az,az,az] [az,az] (zi n)
abbrev acS:=L1 (bL 87) [(0,az),(1,az),(8,az),(9,az)] [(8,az)] ([8,9]++rG 41 10) 0 jU
abbrev acT (n:Nat):List (iU (Int×Int)):=[jN [0,1,1] [.code [1,1,1]] [(0,az),(1,az),(2,az)] (Cq n)]
def QM (n:Nat):=acS.k TZp Tryz.f108 n (hT:=λm _=>.m1 (K5 m))
def Jy (n:Nat):aH TZp (YW n):=bf Tryz.f108 (js:=acT n) (hT:=⟨.nil,K5 n,.nil,(.cc (QM n) .nil),(.cc .nil)⟩)
def qN:uI (Int->Int->Int->M (Int×Int)):=λG n a0 a1 a2=>sh (nu n a1 a2) λx0=>if decide (x0<=a0) then sh (nu n a1 a2) λx1=>G (i64.wrap (a0-x1)) a1 (i64.wrap (a2+1)) else AI (a0,a2)
def lQ:=lp qN
theorem wD (n:Nat):lQ (n+1)=qN (lQ n) n:=rfl
def qO:uI (Int->Int->M Int):=λG n a0 a1=>sh (uJ n (i64.wrap (a1+1))) λx0=>if decide (x0<=a0) then G a0 (i64.wrap (a1+1)) else AI a1
def lR:=lp qO
theorem wE (n:Nat):lR (n+1)=qO (lR n) n:=rfl
def xM (n:Nat)(a0:Int):M (Int×Int×Int×Int):=sh (pI (decide (366≠0))) λx0=>sh (lR n (i64.wrap (a0+719528)) (i64.wrap ((i64.wrap (a0+719528)).tdiv 366))) λx1=>sh (uJ n x1) λx2=>sh (lQ n (i64.wrap (i64.wrap (a0+719528)-x2)) x1 1) λx3=>AI (x1,x3.2,i64.wrap (x3.1+1),0)
def Dc (n:Nat)(a0:Int):M (Int×Int×Int×Int):=if decide (a0 < -719528) then AI (0,0,0,13) else if decide (2932896<a0) then AI (0,0,0,13) else xM n a0
abbrev YX (n:Nat):dV:=eN 109 [az] [az,az,az,az] (Dc n)
abbrev acU:=L1 (bL 79) [(6,az),(7,az)] [(7,az)] ([7]++rG 19 7) 0 lR
abbrev acV:=L1 (bL 639) [(6,az),(7,az),(8,az)] [(6,az),(8,az)] ([6,8]++rG 30 12) 2 lQ
abbrev acW (n:Nat):List (iU (Int×Int×Int×Int)):=[jN [0,1,1] [.code [1,1,1]] [(0,az)] (xM n)]
def QN (n:Nat):=acV.k TZp Tryz.f109 n (hT:=λm _=>.m1 (K5 m))
def QO (n:Nat):=acU.k TZp Tryz.f109 n (hT:=λm _=>.m1 (K5 m))
def Jz (n:Nat):aH TZp (YX n):=bf Tryz.f109 (js:=acW n) (hT:=⟨.nil,K5 n,.nil,(.cc (QO n) (.cc (QN n) .nil)),(.cc .nil)⟩)
def ij (n:Nat)(a0:Addr)(a1:ζ):M ζ:=lI a0 9 λx0=>if decide (0<x0) then lI a0 9 λx1=>sh (jT n x1 9) λx2=>sh (gZ n x2 (ofBytes [48])) λx3=>sh (kK (ofBytes [46]) x3) λx4=>sh (kK a1 x4) λx5=>AI x5 else AI a1
def eg (n:Nat)(a0:Addr)(a1:ζ):M ζ:=lI a0 0 λx0=>if !decide (x0=1) then sh (pI (decide (0<=3/\3<(↑8:Int)))) λx1=>sh (pI (decide (0<=4/\4<(↑8:Int)))) λx2=>sh (pI (decide (0<=5/\5<(↑8:Int)))) λx3=>lI (a0.plus 1) 3 λx4=>lI (a0.plus 1) 4 λx5=>lI (a0.plus 1) 5 λx6=>sh (uC [some ((a0.plus 1).plus 4),some ((a0.plus 1).plus 5)] (jT n x4 2)) λx7=>sh (kK x7 (ofBytes [58])) λx8=>sh (uC [some ((a0.plus 1).plus 5)] (jT n x5 2)) λx9=>sh (kK x8 x9) λx10=>sh (kK x10 (ofBytes [58])) λx11=>sh (jT n x6 2) λx12=>sh (kK x11 x12) λx13=>sh (kK a1 x13) λkH=>ij n a0 kH else ij n a0 a1
def jJ (n:Nat)(a0:J11):M ζ:=nW bN [vi a0.1,vi a0.2.1,vi a0.2.2.1,vi a0.2.2.2.1,vi a0.2.2.2.2.1,vi a0.2.2.2.2.2.1,vi a0.2.2.2.2.2.2.1,vi a0.2.2.2.2.2.2.2.1,vi a0.2.2.2.2.2.2.2.2.1,vi a0.2.2.2.2.2.2.2.2.2.1,.int IntKind.u8 a0.2.2.2.2.2.2.2.2.2.2] λx0=>lI (ak x0) 0 λx1=>if !decide (x1=2) then sh (pI (decide (0<=0/\0<(↑8:Int)))) λx2=>sh (pI (decide (0<=1/\1<(↑8:Int)))) λx3=>sh (pI (decide (0<=2/\2<(↑8:Int)))) λx4=>sh (eU li (((ak x0).plus 1).plus 0)) λ(x5:Int)=>sh (eU li (((ak x0).plus 1).plus 1)) λ(x6:Int)=>sh (eU li (((ak x0).plus 1).plus 2)) λ(x7:Int)=>sh (uC [some (((ak x0).plus 1).plus 1),some (((ak x0).plus 1).plus 2)] (jT n x5 4)) λx8=>sh (kK x8 (ofBytes [45])) λx9=>sh (uC [some (((ak x0).plus 1).plus 2)] (jT n x6 2)) λx10=>sh (kK x9 x10) λx11=>sh (kK x11 (ofBytes [45])) λx12=>sh (jT n x7 2) λx13=>sh (kK x12 x13) λkH=>lI (ak x0) 0 λx15=>if decide (x15=3) then sh (kK kH (ofBytes [84])) λrJ=>eg n (ak x0) rJ else eg n (ak x0) kH else lI (ak x0) 0 λx2=>if decide (x2=3) then sh (kK (ofBytes []) (ofBytes [84])) λx3=>eg n (ak x0) x3 else eg n (ak x0) (ofBytes [])
abbrev YY (n:Nat):dV:=eN 110 [.agg [.int .i64,.int .i64,.int .i64,.int .i64,.int .i64,.int .i64,.int .i64,.int .i64,.int .i64,.int .i64,.int .u8]] [qe] (jJ n)
def acX:=dR [(3,[0,1,5,6,11,12,2,7,13,14008003,4,14008,9,10,14,15,16]),(7,[0,1,2,6,7,12,13,3,8,14,15009004,5,15009,10,11,15,16,17,18])]
abbrev acY (n:Nat):List (iU ζ):=[jN (bL 79) [.code (bL 111),.code [1,1,1,1,1]] [(1,aG),(3,qe)] (eg n), jN (bL 159) [.code (bL 223),.code (bL 127)] [(1,aG),(3,qe)] (ij n)]
def zj (n:Nat):aH TZp (YY n):=bf Tryz.f110 (dr:=acX) (js:=acY n) (hT:=.m3 (K5 n) (.cc (.cc .nil)))
def sH:uI (Addr->Sl->Sl->Int->Int->Sl->Int->Int->M Unit):=λG n a0 a1 a2 a3 a4 a5 a6 a7=>if decide (a7<a6) then iX a5 a7 1 λx0=>eI x0 λx1=>gL a0 λx2=>sh (ov n (x2.1,x2.2) x1 a1) λx3=>G a0 a1 a2 a3 a4 a5 a6 (i64.wrap (a7+1)) else AI ()
def oa:=lp sH
theorem A4 (n:Nat):oa (n+1)=sH (oa n) n:=rfl
def sI:uI (Addr->Sl->Sl->Int->Int->M Unit):=λG n a0 a1 a2 a3 a4=>if decide (a4<a3) then iX a2 a4 5 λx0=>nL x0 λx1=>nW ar [vi 0,.string (ofBytes []),.bool false,aI,aI] λx2=>sN (ak x2) [vi x1.1,.string x1.2.1,.bool x1.2.2.1,aC x1.2.2.2.1,aC x1.2.2.2.2] λx3=>lS (ak x2) 3 λx4=>sh (oa n a0 a1 a2 a3 a4 x4 (↑x4.len:Int) 0) λx5=>G a0 a1 a2 a3 (i64.wrap (a4+1)) else AI ()
def oc:=lp sI
theorem A5 (n:Nat):oc (n+1)=sI (oc n) n:=rfl
def vF (n:Nat)(a0:Sl×Int):M Sl:=nW ah [aC a0.1,vi a0.2] λx0=>lS (ak x0) 0 λx1=>sh (Ap none xH [.bool false] (↑x1.len:Int) (↑x1.len:Int)) λx2=>lS (ak x0) 0 λx3=>sh (oc n (ak x0) x2 x3 (↑x3.len:Int) 0) λx4=>AI x2
abbrev afu (n:Nat):dV:=eN 32 [.agg [.sl,.int .i64]] [cp] (vF n)
abbrev ahI:=L1 [0,1,0,1,1] [(1,aG),(3,cp),(13,cp),(14,az),(15,az)] [] ([5,7]++rG 15 17) 0 oc
abbrev ahJ:=L1 (bL 11467) [(1,aG),(3,cp),(13,cp),(14,az),(15,az),(20,cp),(21,az),(22,az)] [] ([7]++rG 22 9) 2 oa
def Vh (n:Nat):=ahJ.k TZp Tryz.f32 n (hT:=λm _=>.m1 (K5 m))
def Vi (n:Nat):=ahI.k TZp Tryz.f32 n (hT:=λm _=>.m2 (K5 m) (.cc (Vh m) .nil))
def Gv (n:Nat):aH TZp (afu n):=bf Tryz.f32 (hT:=.m2 (K5 n) (.cc (Vi n) .nil))
def tS:uI (Addr->Sl->Sl->Bool->Sl->Sl->Int->Int->Int->Sl->Int->Int->Sl->Int->Int->Sl->Int->Int->M Bool):=λG n a0 a1 a2 a3 a4 a5 a6 a7 a8 a9 a10 a11 a12 a13 a14 a15 a16 a17=>if decide (a17<a16) then iX a15 a17 1 λx0=>eI x0 λx1=>iX a1 x1 1 λx2=>eI x2 λx3=>if decide (x3=a6) then G a0 a1 a2 false a4 a5 a6 a7 a8 a9 a10 a11 a12 a13 a14 a15 a16 (i64.wrap (a17+1)) else iX a4 a6 1 λx4=>iX a1 x1 1 λx5=>eI x4 λx6=>eI x5 λx7=>iX a4 x7 1 λx8=>eI x8 λx9=>iX a4 a6 1 λx10=>sN x10 [vi (if x6<x9 then x9 else x6)] λx11=>G a0 a1 a2 a3 a4 a5 a6 a7 a8 a9 a10 a11 a12 a13 a14 a15 a16 (i64.wrap (a17+1)) else AI a3
def pc:=lp tS
theorem B8 (n:Nat):pc (n+1)=tS (pc n) n:=rfl
def mF:uI (Addr->Sl->Sl->Bool->Sl->Sl->Int->Int->Int->Sl->Int->Int->Sl->Int->Int->M Bool):=λG n a0 a1 a2 a3 a4 a5 a6 a7 a8 a9 a10 a11 a12 a13 a14=>if decide (a14<a13) then iX a12 a14 1 λx0=>eS x0 λx1=>sh (pc n a0 a1 a2 a3 a4 a5 a6 a7 a8 a9 a10 a11 a12 a13 a14 x1 (↑x1.len:Int) 0) λx2=>G a0 a1 a2 x2 a4 a5 a6 a7 a8 a9 a10 a11 a12 a13 (i64.wrap (a14+1)) else AI a3
def pf:=lp mF
theorem qi (n:Nat):pf (n+1)=mF (pf n) n:=rfl
def tT:uI (Addr->Sl->Sl->Bool->Sl->Sl->Int->Int->Int->Sl->Int->Int->M Bool):=λG n a0 a1 a2 a3 a4 a5 a6 a7 a8 a9 a10 a11=>if decide (a11<a10) then iX a9 a11 1 λx0=>eI x0 λx1=>sh (eA 15) λx2=>lS a0 0 λx3=>iX x3 x1 5 λx4=>lS x4 3 λx5=>lS a0 0 λx6=>iX x6 x1 5 λx7=>lS x7 4 λx8=>sh (iB (some (x2+12)) aJ [aC x5,aC x8]) λx9=>sh (pf n a0 a1 a2 a3 a4 a5 a6 a7 a8 a9 a10 a11 { a:=some (ak x9),len:=2,cap:=3 } (↑2:Int) 0) λx10=>G a0 a1 a2 x10 a4 a5 a6 a7 a8 a9 a10 (i64.wrap (a11+1)) else AI a3
def pg:=lp tT
theorem B9 (n:Nat):pg (n+1)=tT (pg n) n:=rfl
def tU:uI (Addr->Sl->Sl->Bool->Sl->Sl->Int->Int->M Bool):=λG n a0 a1 a2 a3 a4 a5 a6 a7=>if decide (a7<a6) then iX a5 a7 1 λx0=>eS x0 λx1=>sh (pg n a0 a1 a2 a3 a4 a5 a7 a6 a7 x1 (↑x1.len:Int) 0) λx2=>iX a4 a7 1 λx3=>iX a2 a7 1 λx4=>eI x3 λx5=>eI x4 λx6=>iX a4 a7 1 λx7=>sN x7 [vi (i64.wrap (x5+x6))] λx8=>G a0 a1 a2 x2 a4 a5 a6 (i64.wrap (a7+1)) else AI a3
def ph:=lp tU
theorem Ca (n:Nat):ph (n+1)=tU (ph n) n:=rfl
def tV:uI (Addr->Sl->Sl->Bool->Sl->Sl->Sl->Int->Int->M Unit):=λG n a0 a1 a2 a3 a4 a5 a6 a7 a8=>if decide (a8<a7) then iX a6 a8 1 λx0=>eI x0 λx1=>iX a5 x1 1 λx2=>eS x2 λx3=>sh (app false x3 1 av 1 [vi a8]) λx4=>iX a5 x1 1 λx5=>sN x5 [aC x4] λx6=>G a0 a1 a2 a3 a4 a5 a6 a7 (i64.wrap (a8+1)) else AI ()
def pn:=lp tV
theorem Cb (n:Nat):pn (n+1)=tV (pn n) n:=rfl
def uL (n:Nat)(a0:Sl×Int):M (Int×Bool):=nW ah [aC a0.1,vi a0.2] λx0=>gL (ak x0) λx1=>sh (pU n (x1.1,x1.2)) λx2=>sh (Ap none av [vi 0] (↑x2.2.len:Int) (↑x2.2.len:Int)) λx3=>sh (Ap none aJ [aI] (↑x2.2.len:Int) (↑x2.2.len:Int)) λx4=>sh (pn n (ak x0) x2.1 x2.2 true x3 x4 x2.1 (↑x2.1.len:Int) 0) λx5=>sh (ph n (ak x0) x2.1 x2.2 true x3 x4 (↑x2.2.len:Int) 0) λx6=>lI (ak x0) 1 λx7=>iX x2.1 x7 1 λx8=>eI x8 λx9=>iX x3 x9 1 λx10=>eI x10 λx11=>AI (i64.wrap (x11-1),x6)
abbrev afv (n:Nat):dV:=eN 34 [.agg [.sl,.int .i64]] [az,jE] (uL n)
abbrev ahK:=L1 (bL 351) [(1,aG),(4,cp),(5,cp),(6,jE),(7,cp),(8,cp),(29,cp),(30,az),(31,az)] [] ([9,10]++rG 31 16) 0 pn
abbrev ahL:=L1 (bL 703) [(1,aG),(4,cp),(5,cp),(6,jE),(7,cp),(8,cp),(48,az),(49,az)] [(6,jE)] ([6,11,13,15,17]++rG 49 71) 2 ph
abbrev ahM:=L1 (bL 347327) [(1,aG),(4,cp),(5,cp),(6,jE),(7,cp),(8,cp),(11,az),(48,az),(49,az),(55,cp),(56,az),(57,az)] [(6,jE)] ([6,13,15,17]++rG 57 52) 4 pg
abbrev ahN:=L1 (bL 93932735) [(1,aG),(4,cp),(5,cp),(6,jE),(7,cp),(8,cp),(11,az),(48,az),(49,az),(55,cp),(56,az),(57,az),(73,cp),(74,az),(75,az)] [(6,jE)] ([6,15,17]++rG 75 33) 6 pf
abbrev ahO:=L1 (bL 24051797183) [(1,aG),(4,cp),(5,cp),(6,jE),(7,cp),(8,cp),(11,az),(48,az),(49,az),(55,cp),(56,az),(57,az),(73,cp),(74,az),(75,az),(79,cp),(80,az),(81,az)] [(6,jE)] ([6,17]++rG 81 26) 8 pc
def Fi:=dR [(16,[0,2,6,8,14,1,3,4,5,7]++rG 9 5),(24,rG 0 5++[6,7,8,9,5]++rG 10 6),(28,[0,1,2,4,5,6,3,7,8,9,10])]
def Vj (n:Nat):=ahO.k TZp Tryz.f34 n (dr:=Fi) (hT:=λm _=>.m1 (K5 m))
def Vk (n:Nat):=ahN.k TZp Tryz.f34 n (dr:=Fi) (hT:=λm _=>.m2 (K5 m) (.cc (Vj m) .nil))
def Vl (n:Nat):=ahM.k TZp Tryz.f34 n (dr:=Fi) (hT:=λm _=>.m2 (K5 m) (.cc (Vk m) .nil))
def Vm (n:Nat):=ahL.k TZp Tryz.f34 n (dr:=Fi) (hT:=λm _=>.m2 (K5 m) (.cc (Vl m) .nil))
def Vn (n:Nat):=ahK.k TZp Tryz.f34 n (dr:=Fi) (hT:=λm _=>.m1 (K5 m))
def Ic (n:Nat):aH TZp (afv n):=bf Tryz.f34 (dr:=Fi) (hT:=.m2 (K5 n) (.cc (Vn n) (.cc (Vm n) .nil)))
def kc (n:Nat)(a0 a1:Addr):M Int:=lB a0 0 λx0=>if x0 then lS a1 1 λx1=>lS a0 1 λx2=>sh (sC n x1 x2) λx3=>AI x3 else lS a0 1 λx1=>lS a1 1 λx2=>sh (sC n x1 x2) λx3=>AI x3
def sJ (n:Nat)(a0 a1:Addr):M Int:=lB a0 0 λx0=>if x0 then lB a1 0 λx1=>if !x1 then AI (-1) else lB a0 0 λx2=>if !x2 then lB a1 0 λx3=>if x3 then AI 1 else kc n a0 a1 else kc n a0 a1 else lB a0 0 λx1=>if !x1 then lB a1 0 λx2=>if x2 then AI 1 else kc n a0 a1 else kc n a0 a1
def xp (n:Nat)(a0 a1:ζ):M Int:=sh (pS n a0) λx0=>nW aF [.bool false,aI] λx1=>sN (ak x1) [.bool x0.1.1,aC x0.1.2] λx2=>sh (pS n a1) λx3=>nW aF [.bool false,aI] λx4=>sN (ak x4) [.bool x3.1.1,aC x3.1.2] λx5=>if !x0.2 then AI 0 else if !x3.2 then AI 0 else sJ n (ak x1) (ak x4)
abbrev YZ (n:Nat):dV:=eN 116 [qe,qe] [az] (xp n)
abbrev acZ (n:Nat):List (iU Int):=[jN (bL 143) [.code (bL 207),.au 0,.code [1,1,1,1,1]] [(5,aG),(7,aG)] (sJ n), jN (bL 3023) [.code (bL 4047),.au 0,.code [1,1,1,1,1]] [(5,aG),(7,aG)] (kc n)]
def Ie (n:Nat):aH TZp (YZ n):=bf Tryz.f116 (js:=acZ n) (hT:=.m3 (K5 n) (.cc (.cc .nil)))
def qP (n:Nat)(a0 a1:Bool×Sl×Int):M Int:=nW bu [.bool a0.1,aC a0.2.1,vi a0.2.2] λx0=>nW bu [.bool a1.1,aC a1.2.1,vi a1.2.2] λx1=>lB (ak x0) 0 λx2=>lB (ak x1) 0 λx3=>if !x2==x3 then lB (ak x0) 0 λx4=>if x4 then AI (-1) else AI 1 else sh (bK [.bool,.sl,li] (ak x0)) λ(x4:Bool×Sl×Int)=>sh (bK [.bool,.sl,li] (ak x1)) λ(x5:Bool×Sl×Int)=>sh (nC n (x4.1,x4.2.1,x4.2.2) (x5.1,x5.2.1,x5.2.2)) λx6=>sh (ux n x6) λx7=>lB (ak x0) 0 λx8=>if x8 then AI (i64.wrap (0-x7)) else AI x7
abbrev Y0 (n:Nat):dV:=eN 143 [.agg [.bool,.sl,.int .i64],.agg [.bool,.sl,.int .i64]] [az] (qP n)
def Dd (n:Nat):aH TZp (Y0 n):=bf Tryz.f143 (hT:=.m1 (K5 n))
def strings_Compare (n:Nat)(a0 a1:ζ):M Int:=sh (mE n a0 a1) λx0=>AI x0
abbrev Y1 (n:Nat):dV:=eN 119 [qe,qe] [az] (strings_Compare n)
def De (n:Nat):aH TZp (Y1 n):=bf Tryz.f119 (hT:=.m1 (K5 n))
def oF (n:Nat)(a0:Int):M Int:=sh (qx n (IntKind.u64.wrap a0)) λx0=>sh (pI (decide (0<=x0))) λx1=>AI (IntKind.u64.wrap (1*2^min (Int.toNat x0) 64))
abbrev Y2 (n:Nat):dV:=eN 112 [az] [.one (.int .u64)] (oF n)
def xN (n:Nat):aH TZp (Y2 n):=bf Tryz.f112 (hT:=.m1 (K5 n))
def aD (n:Nat)(a0:θ)(a1:Int):M ο:=sh (fI n a0) λx0=>sh (nn a0) λx1=>lS x1 1 λx2=>sh (app false x2 1 gT 1 [.int IntKind.u8 a1]) λx3=>sh (nn a0) λx4=>sN (x4.plus 1) [aC x3] λx5=>AI Value.nilIface
abbrev afw (n:Nat):dV:=eN 43 [vW,.one (.int .u8)] [tL] (aD n)
def u7 (n:Nat):aH TZp (afw n):=bf Tryz.f43 (hT:=.m1 (K5 n))
def eL (n:Nat)(a0:θ)(a1:ζ):M (Int×ο):=sh (fI n a0) λx0=>sh (nn a0) λx1=>lS x1 1 λx2=>sh (app false x2 1 gT a1.size (bI a1)) λx3=>sh (nn a0) λx4=>sN (x4.plus 1) [aC x3] λx5=>AI ((↑a1.size:Int),Value.nilIface)
abbrev afx (n:Nat):dV:=eN 42 [vW,qe] [az,tL] (eL n)
def tW (n:Nat):aH TZp (afx n):=bf Tryz.f42 (hT:=.m1 (K5 n))
def wF (n:Nat)(x:ο)(a0:Sl):M Sl:=if rN r9 x then sh (qq [aG] x) λ(c:Addr)=>sE n a0 c else AS
def wG (n:Nat)(x:ο)(a0:Sl):M Sl:=if rN r9 x then sh (qq [aG] x) λ(c:Addr)=>sE n a0 c else AS
def u9:uI (Addr->Sl->Addr->ο->Sl->Int->Int->M Unit):=λG n a0 a1 a2 a3 a4 a5 a6=>if decide (a6<a5) then iX a4 a6 5 λx0=>nL x0 λx1=>nW ar [vi 0,.string (ofBytes []),.bool false,aI,aI] λx2=>sN (ak x2) [vi x1.1,.string x1.2.1,.bool x1.2.2.1,aC x1.2.2.2.1,aC x1.2.2.2.2] λx3=>iX a1 a6 1 λx4=>eB x4 λx5=>if x5 then lS (ak x2) 3 λx6=>lS (ak x2) 4 λx7=>sh (uC [some ((ak x2).plus 4)] (wF n a3 x6)) λx8=>sh (wG n a3 x7) λx9=>sN ((ak x2).plus 3) [aC x8] λx10=>sN ((ak x2).plus 4) [aC x9] λx11=>lS a2 0 λx12=>nL (ak x2) λx13=>sh (app false x12 5 ar 1 [vi x13.1,.string x13.2.1,.bool x13.2.2.1,aC x13.2.2.2.1,aC x13.2.2.2.2]) λkH=>sN (a2.plus 0) [aC kH] λx15=>G a0 a1 a2 a3 a4 a5 (i64.wrap (a6+1)) else G a0 a1 a2 a3 a4 a5 (i64.wrap (a6+1)) else AI ()
def qz:=lp u9
theorem Df (n:Nat):qz (n+1)=u9 (qz n) n:=rfl
def va:uI (Addr->Addr->Sl->Addr->Int->Sl->Int->Int->M Unit):=λG n a0 a1 a2 a3 a4 a5 a6 a7=>if decide (a7<a6) then iX a5 a7 1 λx0=>eB x0 λx1=>eS a3 λx2=>iX x2 a7 1 λx3=>sN x3 [vi a4] λx4=>if x1 then G a0 a1 a2 a3 (i64.wrap (a4+1)) a5 a6 (i64.wrap (a7+1)) else G a0 a1 a2 a3 a4 a5 a6 (i64.wrap (a7+1)) else AI ()
def qA:=lp va
theorem Dh (n:Nat):qA (n+1)=va (qA n) n:=rfl
def zk (n:Nat)(a0:Sl×Int):M (Sl×Int):=nW ah [aC a0.1,vi a0.2] λx0=>nW ah [aI,vi 0] λx1=>lS (ak x0) 0 λx2=>sh (Ap none xH [.bool false] (↑x2.len:Int) (↑x2.len:Int)) λx3=>gL (ak x0) λx4=>lI (ak x0) 1 λx5=>sh (ov n (x4.1,x4.2) x5 x3) λx6=>lS (ak x0) 0 λx7=>sh (Ap none av [vi 0] (↑x7.len:Int) (↑x7.len:Int)) λx8=>nW aJ [aI] λx9=>sN (ak x9) [aC x8] λx10=>sh (qA n (ak x0) (ak x1) x3 (ak x9) 0 x3 (↑x3.len:Int) 0) λx11=>sh (eU .sl (ak x9)) λ(x12:Sl)=>lI (ak x0) 1 λx13=>iX x12 x13 1 λkH=>eI kH λx15=>nW ah [aI,vi 0] λrJ=>sN (ak rJ) [aI,vi x15] λx17=>lS (ak x0) 0 λxa=>sh (qz n (ak x1) x3 (ak rJ) (Value.func (Fn.func r9) #[] #[.pointer (some (ak x9))]) xa (↑xa.len:Int) 0) λx19=>gL (ak rJ) λx20=>sN (ak x1) [aC x20.1,vi x20.2] λx21=>gL (ak x1) λx22=>AI (x22.1,x22.2)
abbrev afy (n:Nat):dV:=eN 27 [.agg [.sl,.int .i64]] [.agg [.sl,.int .i64]] (zk n)
abbrev ahP:=L1 (bL 351) [(1,aG),(2,aG),(3,cp),(4,aG),(5,az),(25,cp),(26,az),(27,az)] [] ([5,6,7]++rG 27 13) 0 qA
abbrev ahQ:=L1 (bL 2815) [(2,aG),(3,cp),(8,aG),(9,tL),(48,cp),(49,az),(50,az)] [] ([10,11]++rG 50 26) 2 qz
abbrev ahR (n:Nat):List rF:=[dN 59 [cp] [cp] (wF n), dN 63 [cp] [cp] (wG n)]
def QP:=dR [(18,[0,1,4,5,2,6,7003,8,7,9,10,11])]
def QQ (n:Nat):qU TZp (ahR n):=.cons (di (.cons (oT [aG] (u5 n)) .nil)) (.cons (di (.cons (oT [aG] (u5 n)) .nil)) .nil)
def Vo (n:Nat):=ahQ.k TZp Tryz.f27 n (dr:=QP) (hT:=λm _=>⟨.nil,K5 m,(QQ m),.nil,.nil⟩)
def Vp (n:Nat):=ahP.k TZp Tryz.f27 n (dr:=QP) (hT:=λm _=>⟨.nil,K5 m,(QQ m),.nil,.nil⟩)
def JA (n:Nat):aH TZp (afy n):=bf Tryz.f27 (dr:=QP) (hT:=⟨.nil,K5 n,(QQ n),(.cc (Vp n) (.cc (Vo n) .nil)),.nil⟩)
def dX (n:Nat)(x:ο)(a0 a1:Int×ζ×Bool×Sl×Sl):M Bool:=if rN AF x then sh (qq [] x) λ(_:Unit)=>Ee n a0 a1 else AS
def iT:uI (Sl->ο->Sl->Int->Int->M (Unit⊕Bool)):=λG n a0 a1 a2 a3 a4=>if decide (a4<a3) then iX a2 a4 5 λx0=>nL x0 λx1=>nW ar [vi 0,.string (ofBytes []),.bool false,aI,aI] λx2=>sN (ak x2) [vi x1.1,.string x1.2.1,.bool x1.2.2.1,aC x1.2.2.2.1,aC x1.2.2.2.2] λx3=>iX a0 a4 5 λx4=>nL x4 λx5=>nW ar [vi 0,.string (ofBytes []),.bool false,aI,aI] λx6=>sN (ak x6) [vi x5.1,.string x5.2.1,.bool x5.2.2.1,aC x5.2.2.2.1,aC x5.2.2.2.2] λx7=>nL (ak x2) λx8=>nL (ak x6) λx9=>sh (dX n a1 (x8.1,x8.2.1,x8.2.2.1,x8.2.2.2.1,x8.2.2.2.2) (x9.1,x9.2.1,x9.2.2.1,x9.2.2.2.1,x9.2.2.2.2)) λx10=>if !x10 then AI (Sum.inr false) else G a0 a1 a2 a3 (i64.wrap (a4+1)) else AI (Sum.inl ())
def eh:=lp iT
def eM (n:Nat)(a0 a1:Sl)(a2:ο):M Bool:=if !decide ((↑a0.len:Int)=(↑a1.len:Int)) then AI false else sh (eh n a1 a2 a0 (↑a0.len:Int) 0) (dU (λx0=>AI true) (λx0=>AI x0))
abbrev afz (n:Nat):dV:=eN 18 [cp,cp,tL] [jE] (eM n)
abbrev ahS:=L2 [0,1,0,1,1] [(1,cp),(2,tL),(15,cp),(16,az),(17,az)] [] [(6,jE)] ([6,7,8,9]++rG 17 15) 0 .ret eh
abbrev ahT (n:Nat):List rF:=[dN 26 [.agg [.int .i64,.str,.bool,.sl,.sl],.agg [.int .i64,.str,.bool,.sl,.sl]] [jE] (dX n)]
def Y3 (n:Nat):qU TZp (ahT n):=.cons (di (.cons (oT [] (zP n)) .nil)) .nil
def Vq (n:Nat):=ahS.k TZp Tryz.f18 n (hT:=λm _=>⟨.nil,K5 m,(Y3 m),.nil,.nil⟩)
def ji (n:Nat):aH TZp (afz n):=bf Tryz.f18 (hT:=⟨.nil,K5 n,(Y3 n),(.cc (Vq n) .nil),.nil⟩)
abbrev C6 (n:Nat):List dV:=afq n::afr n::afs n::YT n::YU n::YV n::aft n::YW n::YX n::YY n::afu n::afv n::YZ n::Y0 n::Y1 n::Y2 n::afw n::afx n::afy n::afz n::C5 n
def K6 (n:Nat):eY TZp (C6 n):=.cons (Fh n) (.cons (B7 n) (.cons (Ib n) (.cons (Jx n) (.cons (Ef n) (.cons (Gt n) (.cons (Gu n) (.cons (Jy n) (.cons (Jz n) (.cons (zj n) (.cons (Gv n) (.cons (Ic n) (.cons (Ie n) (.cons (Dd n) (.cons (De n) (.cons (xN n) (.cons (u7 n) (.cons (tW n) (.cons (JA n) (.cons (ji n) (K5 n))))))))))))))))))))
def qQ (n:Nat)(a0:ζ)(a1:Addr)(a2:Int):M ((Bool×Sl×Int)×Bool):=sh (iF a0 (i64.wrap (a2+1)) (↑a0.size:Int)) λx0=>sh (strconv_Atoi n x0) λx1=>sh (kL x1.2) λx2=>if !x2 then sN a1 [.bool false,aI,vi 0] λx3=>sh (bK [.bool,.sl,li] a1) λ(x4:Bool×Sl×Int)=>AI ((x4.1,x4.2.1,x4.2.2),false) else sh (iF a0 0 a2) λx3=>sh (strings_TrimPrefix n x3 (ofBytes [45])) λx4=>sh (eA 9) λx5=>sh (kE a0 0) λx6=>sh (uw n x4) λx7=>sh (vD n (decide ((↑x6.toNat:Int)=45)) x7 x1.1) λx8=>sh (iB (some (x5+7)) bu [.bool false,aI,vi 0]) λx9=>sN (ak x9) [.bool x8.1,aC x8.2.1,vi x8.2.2] λx10=>sh (bK [.bool,.sl,li] (ak x9)) λ(x11:Bool×Sl×Int)=>sh (bK [.bool,.sl,li] (ak x9)) λ(x12:Bool×Sl×Int)=>sh (uC [some (ak x9)] (oM n (x12.1,x12.2.1,x12.2.2))) λx13=>if decide (x13=0) then sh (bK [.bool,.sl,li] (ak x9)) λ(kH:Bool×Sl×Int)=>sh (uC [some (ak x9)] (pV n (kH.1,kH.2.1,kH.2.2))) λx15=>sN a1 [.bool x11.1,aC x11.2.1,vi x11.2.2] λrJ=>sh (bK [.bool,.sl,li] a1) λ(x17:Bool×Sl×Int)=>AI ((x17.1,x17.2.1,x17.2.2),mQ x15 a0) else sN a1 [.bool x11.1,aC x11.2.1,vi x11.2.2] λkH=>sh (bK [.bool,.sl,li] a1) λ(x15:Bool×Sl×Int)=>AI ((x15.1,x15.2.1,x15.2.2),false)
def pW (n:Nat)(a0:ζ):M ((Bool×Sl×Int)×Bool):=nW bu [.bool false,aI,vi 0] λx0=>sh (strings_IndexByte n a0 101) λx1=>if decide (x1<0) then sN (ak x0) [.bool false,aI,vi 0] λx2=>sh (bK [.bool,.sl,li] (ak x0)) λ(x3:Bool×Sl×Int)=>AI ((x3.1,x3.2.1,x3.2.2),false) else sh (iF a0 0 x1) λx2=>sh (qy n x2) λx3=>if !x3 then sN (ak x0) [.bool false,aI,vi 0] λx4=>sh (bK [.bool,.sl,li] (ak x0)) λ(x5:Bool×Sl×Int)=>AI ((x5.1,x5.2.1,x5.2.2),false) else if decide (6<i64.wrap ((↑a0.size:Int)-x1)) then sN (ak x0) [.bool false,aI,vi 0] λx4=>sh (bK [.bool,.sl,li] (ak x0)) λ(x5:Bool×Sl×Int)=>AI ((x5.1,x5.2.1,x5.2.2),false) else qQ n a0 (ak x0) x1
abbrev afA (n:Nat):dV:=eN 69 [qe] [.agg [.bool,.sl,.int .i64],jE] (pW n)
def ahU:=dR [(8,[0,1,2,3,5,4,6,7,8]),(9,[0,1,1002,3,4,7,5,1006,8,9,10,11])]
abbrev ahV (n:Nat):List (iU ((Bool×Sl×Int)×Bool)):=[jN [0,1,1,1] [.code [1,1,1,1]] [(0,qe),(2,aG),(4,az)] (qQ n)]
def Gw (n:Nat):aH TZp (afA n):=bf Tryz.f69 (dr:=ahU) (js:=ahV n) (hT:=.m3 (K6 n) (.cc .nil))
def uy (n:Nat)(a0 a1:Int)(a2:Nat):M (Nat):=sh (pI (decide (0<=52))) λx0=>sh (bA n (IntKind.u64.wrap (↑(BitVec.ofInt 64 (IntKind.u64.wrap (↑(BitVec.ofInt 64 a1&&&~~~BitVec.ofInt 64 9218868437227405312).toNat:Int))|||BitVec.ofInt 64 (IntKind.u64.wrap (IntKind.u64.wrap (i64.wrap (a0+1023))*2^52))).toNat:Int))) λx1=>sh (Nd a2 x1) λx2=>AI x2
def Cr (n a0:Nat)(a1:Int):M (Nat):=sh (wC n a0) λx0=>sh (bX n x0.1) λx1=>sh (pI (decide (0<=52))) λx2=>if decide (i64.wrap (i64.wrap (a1+x0.2)+i64.wrap (i64.wrap (↑(BitVec.ofInt 64 (i64.wrap (Int.fdiv x1 (2^52)))&&&BitVec.ofInt 64 2047).toNat:Int)-1023)) < -1075) then sh (jS n 0 x0.1) λx3=>AI x3 else if decide (1023<i64.wrap (i64.wrap (a1+x0.2)+i64.wrap (i64.wrap (↑(BitVec.ofInt 64 (i64.wrap (Int.fdiv x1 (2^52)))&&&BitVec.ofInt 64 2047).toNat:Int)-1023))) then if Xg x0.1 0 then sh (uK n (-1)) λx3=>AI x3 else sh (uK n 1) λx3=>AI x3 else if decide (i64.wrap (i64.wrap (a1+x0.2)+i64.wrap (i64.wrap (↑(BitVec.ofInt 64 (i64.wrap (Int.fdiv x1 (2^52)))&&&BitVec.ofInt 64 2047).toNat:Int)-1023)) < -1022) then uy n (i64.wrap (i64.wrap (i64.wrap (a1+x0.2)+i64.wrap (i64.wrap (↑(BitVec.ofInt 64 (i64.wrap (Int.fdiv x1 (2^52)))&&&BitVec.ofInt 64 2047).toNat:Int)-1023))+53)) x1 4368491638549381120 else uy n (i64.wrap (i64.wrap (a1+x0.2)+i64.wrap (i64.wrap (↑(BitVec.ofInt 64 (i64.wrap (Int.fdiv x1 (2^52)))&&&BitVec.ofInt 64 2047).toNat:Int)-1023))) x1 4607182418800017408
def Ig (n a0:Nat)(a1:Int):M (Nat):=if zL a0 0 then AI a0 else sh (nD n a0 0) λx0=>if x0 then AI a0 else sh (H5 n a0) λx1=>if x1 then AI a0 else Cr n a0 a1
abbrev Y4 (n:Nat):dV:=eN 131 [.one (.f64),az] [.one (.f64)] (Ig n)
abbrev ac0 (n:Nat):List (iU (Nat)):=[jN [0,1,1] [.code [1,1,1]] [(0,.one (.f64)),(1,az)] (Cr n), jN (bL 3071) [.code (bL 4095)] [(1,az),(6,.one (.int .u64)),(7,.one (.f64))] (uy n)]
def JB (n:Nat):aH TZp (Y4 n):=bf Tryz.f131 (js:=ac0 n) (hT:=.m3 (K6 n) (.cc (.cc .nil)))
def cQ (n a0:Nat)(a1:ζ):M ζ:=if !zL a0 a0 then AI (ofBytes [110,97,110]) else sh (nD n a0 0) λx0=>if x0 then sh (kK a1 (ofBytes [105,110,102])) λx1=>AI x1 else if zL a0 0 then sh (kK a1 (ofBytes [48,112,48])) λx1=>AI x1 else sh (nE n a0) λx1=>sh (qZ n x1.1 10) λx2=>sh (kK a1 x2) λx3=>sh (kK x3 (ofBytes [112])) λx4=>sh (strconv_Itoa n x1.2) λx5=>sh (kK x4 x5) λx6=>AI x6
def gG (n a0:Nat):M ζ:=sh (lu n a0) λx0=>if x0 then cQ n a0 (ofBytes [45]) else cQ n a0 (ofBytes [])
abbrev Y5 (n:Nat):dV:=eN 103 [.one (.f64)] [qe] (gG n)
abbrev ac1 (n:Nat):List (iU ζ):=[jN (bL 71) [.code (bL 103),.au 0,.code [1,1,1,1]] [(0,.one (.f64)),(3,qe)] (cQ n)]
def Ih (n:Nat):aH TZp (Y5 n):=bf Tryz.f103 (js:=ac1 n) (hT:=.m3 (K6 n) (.cc .nil))
def ff:uI (Addr->(Int×Int×Int×Int×Int)->Int->M (Unit⊕Bool)):=λG n a0 a1 a2=>if decide (a2<5) then sh (KW li 5 [vi a1.1,vi a1.2.1,vi a1.2.2.1,vi a1.2.2.2.1,vi a1.2.2.2.2] a2) λx0=>sh (pI (decide (0<=i64.wrap (a2+3)/\i64.wrap (a2+3)<(↑8:Int)))) λx1=>sh (eU li ((a0.plus 1).plus ((i64.wrap (a2+3)).toNat*1))) λ(x2:Int)=>if decide (x0<x2) then AI (Sum.inr false) else G a0 (a1.1,a1.2.1,a1.2.2.1,a1.2.2.2.1,a1.2.2.2.2) (i64.wrap (a2+1)) else AI (Sum.inl ())
def fW:=lp ff
def fX (n:Nat)(a0:Addr):M Bool:=nW UG [vi 0,vi 0,vi 0,vi 0,vi 0] λx0=>sN (ak x0) [vi 23,vi 59,vi 59,vi 23,vi 59] λx1=>sh (bK [li,li,li,li,li] (ak x0)) λ(x2:Int×Int×Int×Int×Int)=>sh (fW n a0 (x2.1,x2.2.1,x2.2.2.1,x2.2.2.2.1,x2.2.2.2.2) 0) (dU (λx3=>AI true) (λx3=>AI x3))
def iP (n:Nat)(a0:J11):M Bool:=nW bN [vi a0.1,vi a0.2.1,vi a0.2.2.1,vi a0.2.2.2.1,vi a0.2.2.2.2.1,vi a0.2.2.2.2.2.1,vi a0.2.2.2.2.2.2.1,vi a0.2.2.2.2.2.2.2.1,vi a0.2.2.2.2.2.2.2.2.1,vi a0.2.2.2.2.2.2.2.2.2.1,.int IntKind.u8 a0.2.2.2.2.2.2.2.2.2.2] λx0=>lI (ak x0) 0 λx1=>if !decide (x1=2) then sh (pI (decide (0<=0/\0<(↑8:Int)))) λx2=>sh (eU li (((ak x0).plus 1).plus 0)) λ(x3:Int)=>sh (pI (decide (0<=1/\1<(↑8:Int)))) λx4=>sh (eU li (((ak x0).plus 1).plus 1)) λ(x5:Int)=>sh (pI (decide (0<=2/\2<(↑8:Int)))) λx6=>sh (eU li (((ak x0).plus 1).plus 2)) λ(x7:Int)=>sh (zi n x3 x5 x7) λx8=>if !decide (x8.2=0) then AI false else fX n (ak x0) else fX n (ak x0)
abbrev afB (n:Nat):dV:=eN 73 [.agg [.int .i64,.int .i64,.int .i64,.int .i64,.int .i64,.int .i64,.int .i64,.int .i64,.int .i64,.int .i64,.int .u8]] [jE] (iP n)
abbrev ahW:=L2 (bL 87) [(1,aG),(27,.agg [.int .i64,.int .i64,.int .i64,.int .i64,.int .i64]),(28,az)] [] [(2,jE)] ([2,6,7]++rG 28 12) 0 .ret fW
abbrev ahX (n:Nat):List (iU Bool):=[jN [0,1,1] [.code [1,1,1]] [(1,aG)] (fX n)]
def Vr (n:Nat):=ahW.k TZp Tryz.f73 n (hT:=λm _=>.m1 (K6 m))
def xO (n:Nat):aH TZp (afB n):=bf Tryz.f73 (js:=ahX n) (hT:=⟨.nil,K6 n,.nil,(.cc (Vr n) .nil),(.cc .nil)⟩)
def iZ (n:Nat)(a0 a1 a2:Int):M (ζ×Int):=sh (Dc n a1) λx0=>if !decide (x0.2.2.2=0) then AI ((ofBytes []),13) else sh (pI (decide (3600≠0))) λx1=>sh (pI (decide (60≠0))) λx2=>sh (pI (decide (60≠0))) λx3=>sh (pI (decide (60≠0))) λx4=>nW bN [vi 0,vi 0,vi 0,vi 0,vi 0,vi 0,vi 0,vi 0,vi 0,vi 0,.int IntKind.u8 0] λx5=>sN (ak x5) [vi 3,vi x0.1,vi x0.2.1,vi x0.2.2.1,vi (i64.wrap (a2.tdiv 3600)),vi ((i64.wrap (a2.tdiv 60)).tmod 60),vi (a2.tmod 60),vi 0,vi 0,vi a0,.int IntKind.u8 0] λx6=>sh (bK [li,li,li,li,li,li,li,li,li,li,.int IntKind.u8] (ak x5)) λ(x7:J11)=>sh (jJ n (x7.1,x7.2.1,x7.2.2.1,x7.2.2.2.1,x7.2.2.2.2.1,x7.2.2.2.2.2.1,x7.2.2.2.2.2.2.1,x7.2.2.2.2.2.2.2.1,x7.2.2.2.2.2.2.2.2.1,x7.2.2.2.2.2.2.2.2.2.1,x7.2.2.2.2.2.2.2.2.2.2)) λx8=>sh (kK x8 (ofBytes [90])) λx9=>AI (x9,0)
def po (n:Nat)(a0 a1:Int):M (ζ×Int):=sh (pI (decide (86400≠0))) λx0=>sh (pI (decide (86400≠0))) λx1=>if decide (a0.tmod 86400<0) then iZ n a1 (i64.wrap (i64.wrap (a0.tdiv 86400)-1)) (i64.wrap (a0.tmod 86400+86400)) else iZ n a1 (i64.wrap (a0.tdiv 86400)) (a0.tmod 86400)
def oP (n:Nat)(a0 a1:Int):M (ζ×Int):=if decide (a1<0) then AI ((ofBytes []),2) else if decide (999999999<a1) then AI ((ofBytes []),2) else if decide (a0 < -62167219200) then AI ((ofBytes []),13) else if decide (253402300800<=a0) then AI ((ofBytes []),13) else po n a0 a1
abbrev afC (n:Nat):dV:=eN 74 [az,az] [qe,az] (oP n)
abbrev ahY (n:Nat):List (iU (ζ×Int)):=[jN [0,1,1,1] [.code [1,1,1,1]] [(0,az),(1,az)] (po n), jN (bL 95) [.code (bL 127)] [(1,az),(6,az),(7,az)] (iZ n)]
def A6 (n:Nat):aH TZp (afC n):=bf Tryz.f74 (js:=ahY n) (hT:=.m3 (K6 n) (.cc (.cc .nil)))
def jP (n:Nat)(a0:J11):M Int:=nW bN [vi a0.1,vi a0.2.1,vi a0.2.2.1,vi a0.2.2.2.1,vi a0.2.2.2.2.1,vi a0.2.2.2.2.2.1,vi a0.2.2.2.2.2.2.1,vi a0.2.2.2.2.2.2.2.1,vi a0.2.2.2.2.2.2.2.2.1,vi a0.2.2.2.2.2.2.2.2.2.1,.int IntKind.u8 a0.2.2.2.2.2.2.2.2.2.2] λx0=>sh (pI (decide (0<=0/\0<(↑8:Int)))) λx1=>sh (eU li (((ak x0).plus 1).plus 0)) λ(x2:Int)=>sh (pI (decide (0<=1/\1<(↑8:Int)))) λx3=>sh (eU li (((ak x0).plus 1).plus 1)) λ(x4:Int)=>sh (pI (decide (0<=2/\2<(↑8:Int)))) λx5=>sh (eU li (((ak x0).plus 1).plus 2)) λ(x6:Int)=>sh (zi n x2 x4 x6) λx7=>sh (pI (decide (0<=3/\3<(↑8:Int)))) λx8=>sh (eU li (((ak x0).plus 1).plus 3)) λ(x9:Int)=>sh (pI (decide (0<=4/\4<(↑8:Int)))) λx10=>sh (eU li (((ak x0).plus 1).plus 4)) λ(x11:Int)=>sh (pI (decide (0<=5/\5<(↑8:Int)))) λx12=>sh (eU li (((ak x0).plus 1).plus 5)) λ(x13:Int)=>sh (pI (decide (0<=6/\6<(↑8:Int)))) λkH=>sh (eU li (((ak x0).plus 1).plus 6)) λ(x15:Int)=>sh (pI (decide (0<=7/\7<(↑8:Int)))) λrJ=>sh (eU li (((ak x0).plus 1).plus 7)) λ(x17:Int)=>sh (eU (.int IntKind.u8) ((ak x0).plus 10)) λ(xa:Int)=>if decide (xa=43) then AI (i64.wrap (i64.wrap (i64.wrap (i64.wrap (i64.wrap (x7.1*86400)+i64.wrap (x9*3600))+i64.wrap (x11*60))+x13)-i64.wrap (i64.wrap (x15*3600)+i64.wrap (x17*60)))) else AI (i64.wrap (i64.wrap (i64.wrap (i64.wrap (i64.wrap (x7.1*86400)+i64.wrap (x9*3600))+i64.wrap (x11*60))+x13)+i64.wrap (i64.wrap (x15*3600)+i64.wrap (x17*60))))
abbrev afD (n:Nat):dV:=eN 75 [.agg [.int .i64,.int .i64,.int .i64,.int .i64,.int .i64,.int .i64,.int .i64,.int .i64,.int .i64,.int .i64,.int .u8]] [az] (jP n)
def w5 (n:Nat):aH TZp (afD n):=bf Tryz.f75 (hT:=.m1 (K6 n))
abbrev jK:=Sl->Int->Int->Addr->Int->Int->M Unit
def bS (G:jK)(n:Nat)(a0:Sl)(a1 a2:Int)(a3:Addr)(a4 a5 a6:Int):M Unit:=iX a0 (i64.wrap (a1+a6)) 1 λx0=>iX a0 a5 1 λx1=>eI x0 λx2=>eI x1 λx3=>iX a0 a5 1 λx4=>sN x4 [vi x2] λx5=>iX a0 (i64.wrap (a1+a6)) 1 λx6=>sN x6 [vi x3] λx7=>G a0 a1 a2 a3 a4 (i64.wrap (a5+1))
def cq:uI (jK):=λG n a0 a1 a2 a3 a4 a5=>sh (pI (decide (4≠0))) λx0=>if decide (a5<=i64.wrap (i64.wrap (a1+i64.wrap (i64.wrap (a2.tdiv 4)*2))+1)) then sh (lr n (some a3)) λx1=>if decide (a2<=i64.wrap (IntKind.u64.wrap (↑(BitVec.ofInt 64 x1&&&BitVec.ofInt 64 (IntKind.u64.wrap (a4-1))).toNat:Int))) then bS G n a0 a1 a2 a3 a4 a5 (i64.wrap (i64.wrap (IntKind.u64.wrap (↑(BitVec.ofInt 64 x1&&&BitVec.ofInt 64 (IntKind.u64.wrap (a4-1))).toNat:Int))-a2)) else bS G n a0 a1 a2 a3 a4 a5 (i64.wrap (IntKind.u64.wrap (↑(BitVec.ofInt 64 x1&&&BitVec.ofInt 64 (IntKind.u64.wrap (a4-1))).toNat:Int))) else AI ()
def bg:=lp cq
def pX (n:Nat):=bS (bg n) n
def e9 (n:Nat)(a0:Sl)(a1 a2:Int)(a3:ο):M Unit:=if decide (8<=i64.wrap (a2-a1)) then nW xi [.int IntKind.u64 0] λx0=>sN (ak x0) [.int IntKind.u64 (IntKind.u64.wrap (i64.wrap (a2-a1)))] λx1=>sh (oF n (i64.wrap (a2-a1))) λx2=>sh (pI (decide (4≠0))) λx3=>sh (bg n a0 a1 (i64.wrap (a2-a1)) (ak x0) x2 (i64.wrap (i64.wrap (a1+i64.wrap (i64.wrap ((i64.wrap (a2-a1)).tdiv 4)*2))-1))) λx4=>AI () else AI ()
abbrev afE (n:Nat):dV:=eN 79 [cp,az,az,tL] [] (e9 n)
abbrev ahZ:=L1 (bL 187) [(0,cp),(1,az),(8,az),(9,aG),(10,.one (.int .u64)),(11,az)] [] ([11,12]++rG 28 39) 0 bg
def Y6:=dR [(10,rG 0 11++[12,13,14,11]++rG 15 5)]
abbrev Vs (n:Nat):List (iU Unit):=[jN (bL 14651) [.au 1,.code (bL 1851)] [(0,cp),(1,az),(8,az),(9,aG),(10,.one (.int .u64)),(11,az),(12,az)] (pX n)]
def Vt (n:Nat):=ahZ.k TZp Tryz.f79 n (dr:=Y6) (jt:=Vs) (hT:=λm _=>.m3 (K6 m) (.cc .nil))
def rh (n:Nat):aH TZp (afE n):=bf Tryz.f79 (dr:=Y6) (hT:=.m2 (K6 n) (.cc (Vt n) .nil))
def sK:uI (ζ->Addr->Int->Int->M Unit):=λG n a0 a1 a2 a3=>if decide (a3<a2) then sh (kE a0 a3) λx0=>if decide ((↑x0.toNat:Int)=34) then sh (aD n (some a1) 92) λx1=>sh (kE a0 a3) λx2=>sh (aD n (some a1) (↑x2.toNat:Int)) λx3=>G a0 a1 a2 (i64.wrap (a3+1)) else sh (kE a0 a3) λx1=>if decide ((↑x1.toNat:Int)=92) then sh (aD n (some a1) 92) λx2=>sh (kE a0 a3) λx3=>sh (aD n (some a1) (↑x3.toNat:Int)) λx4=>G a0 a1 a2 (i64.wrap (a3+1)) else sh (kE a0 a3) λx2=>sh (aD n (some a1) (↑x2.toNat:Int)) λx3=>G a0 a1 a2 (i64.wrap (a3+1)) else AI ()
def kV:=lp sK
theorem A7 (n:Nat):kV (n+1)=sK (kV n) n:=rfl
def vG (n:Nat)(a0:ζ):M ζ:=nW fO [.pointer none,aI] λx0=>sh (aD n (some (ak x0)) 34) λx1=>sh (kV n a0 (ak x0) (↑a0.size:Int) 0) λx2=>sh (aD n (some (ak x0)) 34) λx3=>sh (ic n (some (ak x0))) λx4=>AI x4
abbrev afF (n:Nat):dV:=eN 54 [qe] [qe] (vG n)
abbrev ah0:=L1 (bL 87) [(0,qe),(3,aG),(7,az),(8,az)] [] ([4]++rG 8 19) 0 kV
def Vu (n:Nat):=ah0.k TZp Tryz.f54 n (hT:=λm _=>.m1 (K6 m))
def Gx (n:Nat):aH TZp (afF n):=bf Tryz.f54 (hT:=.m2 (K6 n) (.cc (Vu n) .nil))
abbrev C7 (n:Nat):List dV:=afA n::Y4 n::Y5 n::afB n::afC n::afD n::afE n::afF n::C6 n
def K7 (n:Nat):eY TZp (C7 n):=.cons (Gw n) (.cons (JB n) (.cons (Ih n) (.cons (xO n) (.cons (A6 n) (.cons (w5 n) (.cons (rh n) (.cons (Gx n) (K6 n))))))))
def uz (n:Nat)(a0:ζ):M Bool:=sh (pW n a0) λx0=>nW bu [.bool false,aI,vi 0] λx1=>sN (ak x1) [.bool x0.1.1,aC x0.1.2.1,vi x0.1.2.2] λx2=>AI x0.2
abbrev afG (n:Nat):dV:=eN 57 [qe] [jE] (uz n)
def Fj (n:Nat):aH TZp (afG n):=bf Tryz.f57 (hT:=.m1 (K7 n))
def Di (n a0:Nat)(a1:Int):M (Nat):=sh (Ig n a0 a1) λx0=>AI x0
abbrev Y7 (n:Nat):dV:=eN 102 [.one (.f64),az] [.one (.f64)] (Di n)
def JC (n:Nat):aH TZp (Y7 n):=bf Tryz.f102 (hT:=.m1 (K7 n))
def nG (n:Nat)(a0:Addr):M (ζ×Int):=sh (bK [li,li,li,li,li,li,li,li,li,li,.int IntKind.u8] a0) λ(x0:J11)=>sh (iP n (x0.1,x0.2.1,x0.2.2.1,x0.2.2.2.1,x0.2.2.2.2.1,x0.2.2.2.2.2.1,x0.2.2.2.2.2.2.1,x0.2.2.2.2.2.2.2.1,x0.2.2.2.2.2.2.2.2.1,x0.2.2.2.2.2.2.2.2.2.1,x0.2.2.2.2.2.2.2.2.2.2)) λx1=>if !x1 then AI ((ofBytes []),13) else sh (bK [li,li,li,li,li,li,li,li,li,li,.int IntKind.u8] a0) λ(x2:J11)=>lI a0 9 λx3=>sh (uC [some (a0.plus 9)] (jP n (x2.1,x2.2.1,x2.2.2.1,x2.2.2.2.1,x2.2.2.2.2.1,x2.2.2.2.2.2.1,x2.2.2.2.2.2.2.1,x2.2.2.2.2.2.2.2.1,x2.2.2.2.2.2.2.2.2.1,x2.2.2.2.2.2.2.2.2.2.1,x2.2.2.2.2.2.2.2.2.2.2))) λx4=>sh (oP n x4 x3) λx5=>AI (x5.1,x5.2)
def oe (n:Nat)(a0:ζ):M (ζ×Int):=sh (nF n a0) λx0=>nW bN [vi 0,vi 0,vi 0,vi 0,vi 0,vi 0,vi 0,vi 0,vi 0,vi 0,.int IntKind.u8 0] λx1=>sN (ak x1) [vi x0.1.1,vi x0.1.2.1,vi x0.1.2.2.1,vi x0.1.2.2.2.1,vi x0.1.2.2.2.2.1,vi x0.1.2.2.2.2.2.1,vi x0.1.2.2.2.2.2.2.1,vi x0.1.2.2.2.2.2.2.2.1,vi x0.1.2.2.2.2.2.2.2.2.1,vi x0.1.2.2.2.2.2.2.2.2.2.1,.int IntKind.u8 x0.1.2.2.2.2.2.2.2.2.2.2] λx2=>if !x0.2 then AI ((ofBytes []),3) else sh (eU (.int IntKind.u8) ((ak x1).plus 10)) λ(x3:Int)=>if decide (x3=0) then AI ((ofBytes []),3) else nG n (ak x1)
abbrev afH (n:Nat):dV:=eN 60 [qe] [qe,az] (oe n)
def ah1:=dR [(6,[2,0,3,4001]++rG 4 5)]
abbrev ah2 (n:Nat):List (iU (ζ×Int)):=[jN [0,0,1,1,1] [.code [1,0,1,1,1],.code [1,1,1,1]] [(4,aG)] (nG n)]
def Dj (n:Nat):aH TZp (afH n):=bf Tryz.f60 (dr:=ah1) (js:=ah2 n) (hT:=.m3 (K7 n) (.cc .nil))
def uA (n:Nat)(a0:ζ):M (ζ×Int):=sh (nF n a0) λx0=>nW bN [vi 0,vi 0,vi 0,vi 0,vi 0,vi 0,vi 0,vi 0,vi 0,vi 0,.int IntKind.u8 0] λx1=>sN (ak x1) [vi x0.1.1,vi x0.1.2.1,vi x0.1.2.2.1,vi x0.1.2.2.2.1,vi x0.1.2.2.2.2.1,vi x0.1.2.2.2.2.2.1,vi x0.1.2.2.2.2.2.2.1,vi x0.1.2.2.2.2.2.2.2.1,vi x0.1.2.2.2.2.2.2.2.2.1,vi x0.1.2.2.2.2.2.2.2.2.2.1,.int IntKind.u8 x0.1.2.2.2.2.2.2.2.2.2.2] λx2=>if !x0.2 then AI ((ofBytes []),3) else sh (eU (.int IntKind.u8) ((ak x1).plus 10)) λ(x3:Int)=>if !decide (x3=0) then AI ((ofBytes []),3) else sh (bK [li,li,li,li,li,li,li,li,li,li,.int IntKind.u8] (ak x1)) λ(x4:J11)=>sh (iP n (x4.1,x4.2.1,x4.2.2.1,x4.2.2.2.1,x4.2.2.2.2.1,x4.2.2.2.2.2.1,x4.2.2.2.2.2.2.1,x4.2.2.2.2.2.2.2.1,x4.2.2.2.2.2.2.2.2.1,x4.2.2.2.2.2.2.2.2.2.1,x4.2.2.2.2.2.2.2.2.2.2)) λx5=>if !x5 then AI ((ofBytes []),13) else sh (bK [li,li,li,li,li,li,li,li,li,li,.int IntKind.u8] (ak x1)) λ(x6:J11)=>sh (jJ n (x6.1,x6.2.1,x6.2.2.1,x6.2.2.2.1,x6.2.2.2.2.1,x6.2.2.2.2.2.1,x6.2.2.2.2.2.2.1,x6.2.2.2.2.2.2.2.1,x6.2.2.2.2.2.2.2.2.1,x6.2.2.2.2.2.2.2.2.2.1,x6.2.2.2.2.2.2.2.2.2.2)) λx7=>AI (x7,0)
abbrev afI (n:Nat):dV:=eN 76 [qe] [qe,az] (uA n)
def Fk (n:Nat):aH TZp (afI n):=bf Tryz.f76 (hT:=.m1 (K7 n))
def xq (n:Nat)(a0 a1:ζ):M Int:=sh (pW n a0) λx0=>nW bu [.bool false,aI,vi 0] λx1=>sN (ak x1) [.bool x0.1.1,aC x0.1.2.1,vi x0.1.2.2] λx2=>sh (pW n a1) λx3=>nW bu [.bool false,aI,vi 0] λx4=>sN (ak x4) [.bool x3.1.1,aC x3.1.2.1,vi x3.1.2.2] λx5=>if !x0.2 then AI 0 else if !x3.2 then AI 0 else sh (bK [.bool,.sl,li] (ak x1)) λ(x6:Bool×Sl×Int)=>sh (bK [.bool,.sl,li] (ak x4)) λ(x7:Bool×Sl×Int)=>sh (qP n (x6.1,x6.2.1,x6.2.2) (x7.1,x7.2.1,x7.2.2)) λx8=>AI x8
abbrev Y8 (n:Nat):dV:=eN 117 [qe,qe] [az] (xq n)
def Ii (n:Nat):aH TZp (Y8 n):=bf Tryz.f117 (hT:=.m1 (K7 n))
def vc:uI (θ->Sl->Int->Int->M Sl):=λG n a0 a1 a2 a3=>if decide (a3<a2) then sh (nn a0) λx0=>sh (nn a0) λx1=>lT x0 1 λx2=>sh (kE x2 a3) λx3=>sh (pI (decide (0<=4))) λx4=>sh (kE (ofBytes [48,49,50,51,52,53,54,55,56,57,97,98,99,100,101,102]) ((↑x3.toNat:Int).fdiv (2^4))) λx5=>lT x1 1 λx6=>sh (kE x6 a3) λx7=>sh (kE (ofBytes [48,49,50,51,52,53,54,55,56,57,97,98,99,100,101,102]) (IntKind.u8.wrap (↑(BitVec.ofInt 8 (↑x7.toNat:Int)&&&BitVec.ofInt 8 15).toNat:Int))) λx8=>sh (app true a1 1 gT 2 [.int IntKind.u8 (↑x5.toNat:Int),.int IntKind.u8 (↑x8.toNat:Int)]) λx9=>G a0 x9 a2 (i64.wrap (a3+1)) else AI a1
def qB:=lp vc
theorem Dk (n:Nat):qB (n+1)=vc (qB n) n:=rfl
def wH (n:Nat)(a0:θ):M ζ:=sh (nn a0) λx0=>lI x0 0 λx1=>if decide (x1=0) then AI (ofBytes [110,117,108,108]) else if decide (x1=5) then sh (nn a0) λx2=>lT x2 1 λx3=>sh (vG n x3) λx4=>AI x4 else if decide (x1=6) then nW gT [.int IntKind.u8 35] λx2=>sh (nn a0) λx3=>lT x3 1 λx4=>sh (qB n a0 { a:=some (ak x2),len:=1,cap:=2 } (↑(ByteArray.size x4):Int) 0) λx5=>sh (strOf x5) λx6=>AI x6 else if decide (x1=7) then sh (nn a0) λx2=>lT x2 1 λx3=>sh (kK (ofBytes [64]) x3) λx4=>AI x4 else if decide (x1=8) then sh (nn a0) λx2=>lT x2 1 λx3=>sh (kK (ofBytes [37]) x3) λx4=>AI x4 else sh (nn a0) λx2=>lT x2 1 λx3=>AI x3
abbrev afJ (n:Nat):dV:=eN 41 [vW] [qe] (wH n)
abbrev ah3:=L1 (bL 22005) [(0,vW),(3,cp),(25,az),(26,az)] [(3,cp)] ([3,4]++rG 26 23) 1 qB
def Y9:=dR [(11,[0,1,2,3,5,9,10,11,13,4,6,7,8,12]++rG 14 6)]
def Vv (n:Nat):=ah3.k TZp Tryz.f41 n (dr:=Y9) (hT:=λm _=>.m1 (K7 m))
def JD (n:Nat):aH TZp (afJ n):=bf Tryz.f41 (dr:=Y9) (hT:=.m2 (K7 n) (.cc (Vv n) .nil))
abbrev C8 (n:Nat):List dV:=afG n::Y7 n::afH n::afI n::Y8 n::afJ n::C7 n
def K8 (n:Nat):eY TZp (C8 n):=.cons (Fj n) (.cons (JC n) (.cons (Dj n) (.cons (Fk n) (.cons (Ii n) (.cons (JD n) (K7 n))))))
def gj (n:Nat)(a0:ζ)(a1:Bool)(a2 a3:Int):M (Nat×Bool):=sh (Di n (Xh a2) a3) λx0=>sh (gG n x0) λx1=>if !mQ x1 a0 then AI (0,false) else if a1 then sh (jS n x0 13830554455654793216) λx2=>AI (x2,true) else AI (x0,true)
def jQ (n:Nat)(a0:ζ):M (Nat×Bool):=sh (strings_CutPrefix n a0 (ofBytes [45])) λx0=>if mQ a0 (ofBytes [110,97,110]) then sh (H7 n) λx1=>AI (x1,true) else if mQ x0.1 (ofBytes [105,110,102]) then sh (uK n 1) λx1=>if x0.2 then sh (jS n x1 13830554455654793216) λx2=>AI (x2,true) else AI (x1,true) else if mQ x0.1 (ofBytes [48,112,48]) then if x0.2 then sh (jS n 0 13830554455654793216) λx1=>AI (x1,true) else AI (0,true) else sh (strings_Cut n x0.1 (ofBytes [112])) λx1=>sh (fP n x1.1 10 64) λx2=>sh (strconv_Atoi n x1.2.1) λx3=>if !x1.2.2 then AI (0,false) else sh (kL x2.2) λx4=>if !x4 then AI (0,false) else sh (kL x3.2) λx5=>if !x5 then AI (0,false) else sh (o6 n x2.1 x3.1) λx6=>if !x6 then AI (0,false) else gj n x0.1 x0.2 x2.1 x3.1
abbrev afK (n:Nat):dV:=eN 70 [qe] [.one (.f64),jE] (jQ n)
abbrev ah4 (n:Nat):List (iU (Nat×Bool)):=[jN (bL 98279) [.code (bL 131047),.au 0,.code [1,1,1,1]] [(4,qe),(5,jE),(10,.one (.int .u64)),(12,az)] (gj n)]
def Gy (n:Nat):aH TZp (afK n):=bf Tryz.f70 (js:=ah4 n) (hT:=.m3 (K8 n) (.cc .nil))
def qC (n:Nat)(a0:ζ):M Int:=sh (uA n a0) λx0=>if !decide (x0.2=0) then AI 0 else if !mQ x0.1 a0 then AI 0 else sh (nF n a0) λx1=>nW bN [vi 0,vi 0,vi 0,vi 0,vi 0,vi 0,vi 0,vi 0,vi 0,vi 0,.int IntKind.u8 0] λx2=>sN (ak x2) [vi x1.1.1,vi x1.1.2.1,vi x1.1.2.2.1,vi x1.1.2.2.2.1,vi x1.1.2.2.2.2.1,vi x1.1.2.2.2.2.2.1,vi x1.1.2.2.2.2.2.2.1,vi x1.1.2.2.2.2.2.2.2.1,vi x1.1.2.2.2.2.2.2.2.2.1,vi x1.1.2.2.2.2.2.2.2.2.2.1,.int IntKind.u8 x1.1.2.2.2.2.2.2.2.2.2.2] λx3=>lI (ak x2) 0 λx4=>AI x4
abbrev afL (n:Nat):dV:=eN 61 [qe] [az] (qC n)
def Fm (n:Nat):aH TZp (afL n):=bf Tryz.f61 (hT:=.m1 (K8 n))
structure aQ where
 eH:θ->Int->Sl->θ->Int->Sl->Int->Int->M Int
 fh:θ->Int->Sl->M Int
def mG (G:aQ)(n:Nat)(a0:θ)(a1:Int)(a2:Sl)(a3:θ)(a4:Int)(a5:Sl)(a6 a7:Int):M Int:=if decide (a7<a6) then iX a5 a7 1 λx0=>eI x0 λx1=>sh (nn a3) λx2=>lI x2 0 λx3=>if decide (x3=10) then sh (nn a3) λx4=>lS x4 3 λx5=>iX x5 a7 1 λx6=>eI x6 λx7=>sh (G.fh a0 x7 a2) λx8=>sh (G.fh a0 x1 a2) λx9=>G.eH a0 a1 a2 a3 (i64.wrap (i64.wrap (a4+i64.wrap (1+x8))+x9)) a5 a6 (i64.wrap (a7+1)) else sh (G.fh a0 x1 a2) λx4=>G.eH a0 a1 a2 a3 (i64.wrap (a4+x4)) a5 a6 (i64.wrap (a7+1)) else AI a4
def dP (G:aQ)(n:Nat)(a0:θ)(a1:Int)(a2:Sl)(a3:θ)(a4:Int):M Int:=sh (nn a3) λx0=>lS x0 4 λx1=>sh (G.eH a0 a1 a2 a3 a4 x1 (↑x1.len:Int) 0) λx2=>iX a2 a1 1 λx3=>sN x3 [vi (if 65537<x2 then 65537 else x2)] λx4=>iX a2 a1 1 λx5=>eI x5 λx6=>AI x6
def mH (G:aQ)(n:Nat)(a0:θ)(a1:Int)(a2:Sl)(a3:θ)(a4:Int):M Int:=if decide (a4=11) then sh (nn a3) λx0=>lT x0 1 λx1=>dP G n a0 a1 a2 a3 (i64.wrap (3+(↑(ByteArray.size x1):Int))) else sh (wH n a3) λx0=>dP G n a0 a1 a2 a3 (↑(ByteArray.size x0):Int)
def pz (G:aQ)(n:Nat)(a0:θ)(a1:Int)(a2:Sl):M Int:=iX a2 a1 1 λx0=>eI x0 λx1=>if decide (0<=x1) then iX a2 a1 1 λx2=>eI x2 λx3=>AI x3 else sh (nn a0) λx2=>lS (x2.plus 0) 0 λx3=>iX x3 a1 5 λx4=>sh (nn (some x4)) λx5=>lI x5 0 λx6=>if decide (x6=9) then sh (nn (some x4)) λx7=>lS x7 4 λx8=>dP G n a0 a1 a2 (some x4) (i64.wrap (2+if 0<i64.wrap ((↑x8.len:Int)-1) then i64.wrap ((↑x8.len:Int)-1) else 0)) else if decide (x6=10) then sh (nn (some x4)) λx7=>lS x7 4 λx8=>dP G n a0 a1 a2 (some x4) (i64.wrap (2+if 0<i64.wrap ((↑x8.len:Int)-1) then i64.wrap ((↑x8.len:Int)-1) else 0)) else mH G n a0 a1 a2 (some x4) x6
def aQ.at:Nat->aQ|0=>⟨λ_ _ _ _ _ _ _ _=>AS,λ_ _ _=>AS⟩|n+1=>⟨mG (aQ.at n) n,pz (aQ.at n) n⟩
def eH (n:Nat):=(aQ.at n).eH
def fh (n:Nat):=(aQ.at n).fh
def Ah (n:Nat):=mH (aQ.at n) n
def Ai (n:Nat):=dP (aQ.at n) n
abbrev Za (n:Nat):dV:=eN 24 [vW,az,cp] [az] (fh n)
abbrev ah5:=L1 (bL 351) [(0,vW),(1,az),(2,cp),(7,vW),(8,az),(56,cp),(57,az),(58,az)] [(8,az)] ([8,9,10]++rG 58 30) 1 eH
abbrev C9 (n:Nat):List dV:=Za n::C8 n
abbrev ah6 (n:Nat):List (iU Int):=[jN (bL 1455) [.code (bL 1967),.au 0,.code [1,1,1,1,1]] [(0,vW),(1,az),(2,cp),(7,vW),(30,az)] (Ah n), jN (bL 159) [.code (bL 223),.code (bL 127)] [(0,vW),(1,az),(2,cp),(7,vW),(8,az)] (Ai n)]
def ja (n:Nat):Prop:=aH TZp (Za n)
def ah7 (n:Nat)(H:ja n):eY TZp (C9 n):=.cons H (K8 n)
def Vw (n:Nat)(H:Hy ja n):=ah5.k TZp Tryz.f24 n (hT:=λm hm=>.m1 (ah7 m ((H.d hm).s)))
def wI (n:Nat)(H:Hy ja n):aH TZp (Za (n+1)):=bf Tryz.f24 (js:=ah6 n) (hT:=⟨.nil,ah7 n (H.s),.nil,(.cc (Vw n H) .nil),(.cc (.cc .nil))⟩)
def xP (n:Nat):ja n:=Oc (Q:=ja) (gM Tryz.f24) wI n
def K9 (n:Nat):eY TZp (C9 n):=ah7 n (xP n)
abbrev C10 (n:Nat):List dV:=afK n::afL n::C9 n
def K10 (n:Nat):eY TZp (C10 n):=.cons (Gy n) (.cons (Fm n) (K9 n))
def nH (n:Nat)(a0:ζ):M Bool:=sh (jQ n a0) λx0=>AI x0.2
abbrev afM (n:Nat):dV:=eN 58 [qe] [jE] (nH n)
def Gz (n:Nat):aH TZp (afM n):=bf Tryz.f58 (hT:=.m1 (K10 n))
def xQ (n a0 a1:Nat):M (Int×Bool):=if Xg a0 a1 then AI (-1,true) else if P0 a0 a1 then AI (1,true) else AI (0,true)
def zl (n:Nat)(a0 a1:ζ):M (Int×Bool):=sh (jQ n a0) λx0=>sh (jQ n a1) λx1=>if !x0.2 then AI (0,false) else if !x1.2 then AI (0,false) else if !zL x0.1 x0.1 then AI (0,false) else if !zL x1.1 x1.1 then AI (0,false) else xQ n x0.1 x1.1
abbrev Zb (n:Nat):dV:=eN 118 [qe,qe] [az,jE] (zl n)
abbrev ac2 (n:Nat):List (iU (Int×Bool)):=[jN (bL 359) [.code (bL 487),.au 0,.code [1,1,1,1]] [(6,.one (.f64)),(8,.one (.f64))] (xQ n)]
def JE (n:Nat):aH TZp (Zb n):=bf Tryz.f118 (js:=ac2 n) (hT:=.m3 (K10 n) (.cc .nil))
abbrev C11 (n:Nat):List dV:=afM n::Zb n::C10 n
def K11 (n:Nat):eY TZp (C11 n):=.cons (Gz n) (.cons (JE n) (K10 n))
def vH (n:Nat)(a0:Int)(a1:ζ):M Bool:=if decide (a0=0) then AI (mQ a1 (ofBytes [])) else if decide (a0=1) then if mQ a1 (ofBytes [116,114,117,101]) then AI true else AI (mQ a1 (ofBytes [102,97,108,115,101])) else if decide (a0=2) then sh (qy n a1) λx0=>AI x0 else if decide (a0=3) then sh (uz n a1) λx0=>AI x0 else if decide (a0=4) then sh (nH n a1) λx0=>AI x0 else if decide (a0=5) then sh (qJ n a1) λx0=>AI (decide (x0.2=0)) else if decide (a0=6) then AI true else if decide (a0=7) then sh (oe n a1) λx0=>if decide (x0.2=0) then AI (mQ x0.1 a1) else AI false else if decide (a0=8) then sh (qC n a1) λx0=>AI !decide (x0=0) else AI false
abbrev afN (n:Nat):dV:=eN 47 [az,qe] [jE] (vH n)
def GA (n:Nat):aH TZp (afN n):=bf Tryz.f47 (hT:=.m1 (K11 n))
def vI (n:Nat)(a0:Int)(a1 a2:ζ):M Int:=if mQ a1 a2 then AI 0 else if decide (a0=2) then sh (xp n a1 a2) λx0=>AI x0 else if decide (a0=3) then sh (xq n a1 a2) λx0=>AI x0 else if decide (a0=4) then if mQ a1 (ofBytes [110,97,110]) then AI 1 else if mQ a2 (ofBytes [110,97,110]) then AI (-1) else sh (zl n a1 a2) λx0=>if !decide (x0.1=0) then AI x0.1 else if mQ a1 (ofBytes [45,48,112,48]) then AI (-1) else AI 1 else sh (strings_Compare n a1 a2) λx0=>AI x0
abbrev afO (n:Nat):dV:=eN 87 [az,qe,qe] [az] (vI n)
def GC (n:Nat):aH TZp (afO n):=bf Tryz.f87 (hT:=.m1 (K11 n))
abbrev C12 (n:Nat):List dV:=afN n::afO n::C11 n
def K12 (n:Nat):eY TZp (C12 n):=.cons (GA n) (.cons (GC n) (K11 n))
def zm (n:Nat)(a0:Int×ζ×Bool×Sl×Sl):M Bool:=nW ar [vi a0.1,.string a0.2.1,.bool a0.2.2.1,aC a0.2.2.2.1,aC a0.2.2.2.2] λx0=>lI (ak x0) 0 λx1=>if decide (x1=9) then lT (ak x0) 1 λx2=>if mQ x2 (ofBytes []) then lB (ak x0) 2 λx3=>if !x3 then lS (ak x0) 3 λx4=>AI (decide ((↑x4.len:Int)=0)) else AI false else AI false else if decide (x1=10) then lT (ak x0) 1 λx2=>if mQ x2 (ofBytes []) then lS (ak x0) 3 λx3=>lS (ak x0) 4 λx4=>AI (decide ((↑x3.len:Int)=(↑x4.len:Int))) else AI false else if decide (x1=11) then lT (ak x0) 1 λx2=>sh (yY n x2) λx3=>if x3 then lB (ak x0) 2 λx4=>if !x4 then lS (ak x0) 3 λx5=>if decide ((↑x5.len:Int)=0) then lS (ak x0) 4 λx6=>AI (decide ((↑x6.len:Int)=1)) else AI false else AI false else AI false else lB (ak x0) 2 λx2=>if !x2 then lS (ak x0) 3 λx3=>if decide ((↑x3.len:Int)=0) then lS (ak x0) 4 λx4=>if decide ((↑x4.len:Int)=0) then lI (ak x0) 0 λx5=>lT (ak x0) 1 λx6=>sh (vH n x5 x6) λx7=>AI x7 else AI false else AI false else AI false
abbrev afP (n:Nat):dV:=eN 30 [.agg [.int .i64,.str,.bool,.sl,.sl]] [jE] (zm n)
def JF (n:Nat):aH TZp (afP n):=bf Tryz.f30 (hT:=.m1 (K12 n))
structure aa where
 fF:Int->Addr->Addr->Sl->Int->Int->M Unit
 eC:θ->Int->M Sl
 dS:Sl->ο->M Unit
 kC:Int->Int->Addr->Addr->M Int
 lW:θ->Int->θ->Int->ν->M Int
 bB:Sl->Int->Int->Int->ο->Bool->Bool->M Unit
 db:Sl->Int->Int->Int->ο->M Unit
 jC:θ->θ->ν->θ->θ->Sl->Sl->Int->Int->M (Unit⊕Int)
 sM:θ->Int->θ->Int->ν->M Int
 bQ:Sl->Int->Int->ο->Int->Int->M Unit
 bR:Sl->Int->Int->ο->Int->M Unit
 dK:Sl->Int->Int->ο->M Unit
 cS:Sl->ο->Int->Int->Int->Int->M Unit
 cT:Sl->ο->Int->Int->Int->M Unit
 fj:Sl->Int->Int->ο->M Unit
 dZ:Sl->Int->Int->ο->M (Int×Int)
 bC:Sl->Int->Int->ο->Int->Int->Int->M Unit
 bE:Sl->Int->Int->ο->Int->Int->Int->M Unit
 aS:Sl->Int->Int->ο->Int->Int->M Int
 aT:Sl->Int->Int->ο->Int->Int->M (Unit⊕Bool)
 bV:Sl->Int->Int->ο->M Bool
 bF:Sl->Int->ο->Int->Int->M Int
 bG:Sl->Int->ο->Int->Int->M Int
 bH:Sl->Int->ο->Int->Int->M Int
 dz:Sl->Int->Int->Int->ο->M Int
 cJ:Sl->Int->ο->Int->Int->M Int
 cK:Sl->Int->ο->Int->Int->M Int
 cM:Sl->Int->ο->Int->Int->M Int
 cN:Sl->Int->ο->Int->Int->M Int
 cO:Sl->Int->ο->Int->Int->M Int
 eP:Sl->Int->Int->Int->ο->M (Int×Bool)
 cV:Sl->Int->Int->ο->Int->M (Unit⊕Unit)
 dT:Sl->Int->Int->Int->ο->M Unit
 cd:Sl->Int->θ->ο->M Int
 dE:Sl->Int->Int->Int->θ->ο->M Int
 dG:Sl->Int->Int->θ->ο->M (Int×Int)
def aw (G:aa)(n:Nat)(x:ο)(a0 a1:Int):M Int:=if rN jk x then sh (qq [aG,aG] x) λ(c:Addr×Addr)=>G.kC a0 a1 c.1 c.2 else AS
abbrev jm:=aw
abbrev gH:=aw
abbrev gI:=aw
abbrev gm:=aw
abbrev jb:=aw
abbrev jc:=aw
abbrev kI:=aw
abbrev kJ:=aw
abbrev ke:=aw
abbrev kh:=aw
abbrev lD:=aw
abbrev lE:=aw
abbrev mI:=aw
def lU (G:aa)(n:Nat)(a0:Int)(a1 a2:Addr)(a3:Sl)(a4 a5:Int):M Unit:=if decide (a5<a4) then iX a3 a5 1 λx0=>sN x0 [vi a5] λx1=>G.fF a0 a1 a2 a3 a4 (i64.wrap (a5+1)) else AI ()
def lV (G:aa)(n:Nat)(a0:Int)(a1 a2:Addr)(a3:Sl):M Sl:=sh (G.dS a3 (Value.func (Fn.func jk) #[] #[.pointer (some a1),.pointer (some a2)])) λx0=>sh (eU .ptr a1) λ(x1:θ)=>sh (nn x1) λx2=>lS x2 2 λx3=>iX x3 a0 1 λx4=>sN x4 [aC a3] λx5=>AI a3
def oG (G:aa)(n:Nat)(a0:θ)(a1:Int):M Sl:=nW bz [.pointer a0] λx0=>sh (eU .ptr (ak x0)) λ(x1:θ)=>sh (nn x1) λx2=>lS (x2.plus 0) 0 λx3=>iX x3 a1 5 λx4=>nW fu [.pointer none] λx5=>sN (ak x5) [.pointer (some x4)] λx6=>sh (eU .ptr (ak x0)) λ(x7:θ)=>sh (nn x7) λx8=>lS x8 2 λx9=>iX x9 a1 1 λx10=>eS x10 λx11=>if !x11.a.isNone then sh (eU .ptr (ak x0)) λ(x12:θ)=>sh (nn x12) λx13=>lS x13 2 λkH=>iX kH a1 1 λx15=>eS x15 λrJ=>AI rJ else sh (eU .ptr (ak x5)) λ(x12:θ)=>sh (nn x12) λx13=>lS x13 4 λkH=>sh (Ap none av [vi 0] (↑kH.len:Int) (↑kH.len:Int)) λx15=>sh (G.fF a1 (ak x0) (ak x5) x15 (↑x15.len:Int) 0) λrJ=>sh (eU .ptr (ak x5)) λ(x17:θ)=>sh (nn x17) λxa=>lI xa 0 λx19=>if decide (x19=10) then sh (eU .ptr (ak x5)) λ(x20:θ)=>sh (nn x20) λx21=>lB x21 2 λx22=>if !x22 then lV G n a1 (ak x0) (ak x5) x15 else sh (eU .ptr (ak x0)) λ(x23:θ)=>sh (nn x23) λx24=>lS x24 2 λx25=>iX x25 a1 1 λx26=>sN x26 [aC x15] λx27=>AI x15 else sh (eU .ptr (ak x0)) λ(x20:θ)=>sh (nn x20) λx21=>lS x21 2 λx22=>iX x22 a1 1 λx23=>sN x23 [aC x15] λx24=>AI x15
def kM (G:aa)(n:Nat)(a0:Sl)(a1:ο):M Unit:=sh (qx n (IntKind.u64.wrap (↑a0.len:Int))) λx0=>sh (G.db a0 0 (↑a0.len:Int) x0 a1) λx1=>AI ()
def mJ (G:aa)(n:Nat)(a0 a1:Int)(a2 a3:Addr):M Int:=sh (eU .ptr a2) λ(x0:θ)=>sh (eU .ptr a3) λ(x1:θ)=>sh (nn x1) λx2=>lS x2 3 λx3=>iX x3 a0 1 λx4=>eI x4 λx5=>sh (eU .ptr a2) λ(x6:θ)=>sh (eU .ptr a3) λ(x7:θ)=>sh (nn x7) λx8=>lS x8 3 λx9=>iX x9 a1 1 λx10=>eI x10 λx11=>sh (G.lW x0 x5 x6 x11 none) λx12=>AI x12
def ve (G:aa)(n:Nat)(a0:θ)(a1:Int)(a2:θ)(a3:Int)(a4:ν):M Int:=sh (zJ Kf (Ty.one li) 0 a4 (Value.agg #[vi a1,vi a3])) λ(x0:Bool×Int)=>if x0.1 then AI x0.2 else sh (G.sM a0 a1 a2 a3 a4) λx1=>if !a4.isNone then sh (FM Kf a4 (Value.agg #[vi a1,vi a3]) (vi x1)) λx2=>AI x1 else AI x1
def cX (G:aa)(n:Nat)(a0:Sl)(a1 a2 a3:Int)(a4:ο)(a5 a6:Bool)(a7 a8:Int):M Unit:=sh (G.eP a0 a1 a2 a8 a4) λx0=>sh (pI (decide (8≠0))) λx1=>if decide (i64.wrap (x0.1-a1)<i64.wrap (a2-x0.1)) then sh (G.db a0 a1 x0.1 a3 a4) λx2=>G.bB a0 (i64.wrap (x0.1+1)) a2 a3 a4 (decide (i64.wrap (a7.tdiv 8)<=i64.wrap (x0.1-a1))) x0.2 else sh (G.db a0 (i64.wrap (x0.1+1)) a2 a3 a4) λx2=>G.bB a0 a1 x0.1 a3 a4 (decide (i64.wrap (a7.tdiv 8)<=i64.wrap (a2-x0.1))) x0.2
def bh (G:aa)(n:Nat)(a0:Sl)(a1 a2 a3:Int)(a4:ο)(a5 a6:Bool)(a7 a8:Int):M Unit:=if decide (0<a1) then iX a0 (i64.wrap (a1-1)) 1 λx0=>iX a0 a8 1 λx1=>eI x0 λx2=>eI x1 λx3=>sh (aw G n a4 x2 x3) λx4=>if !decide (x4<0) then sh (G.dz a0 a1 a2 a8 a4) λx5=>G.bB a0 x5 a2 a3 a4 a5 a6 else cX G n a0 a1 a2 a3 a4 a5 a6 a7 a8 else cX G n a0 a1 a2 a3 a4 a5 a6 a7 a8
def cY (G:aa)(n:Nat)(a0:Sl)(a1 a2 a3:Int)(a4:ο)(a5 a6:Bool)(a7 a8 a9:Int):M Unit:=if a5 then if a6 then if decide (a9=1) then sh (G.bV a0 a1 a2 a4) λx0=>if x0 then AI () else bh G n a0 a1 a2 a3 a4 a5 a6 a7 a8 else bh G n a0 a1 a2 a3 a4 a5 a6 a7 a8 else bh G n a0 a1 a2 a3 a4 a5 a6 a7 a8 else bh G n a0 a1 a2 a3 a4 a5 a6 a7 a8
def cZ (G:aa)(n:Nat)(a0:Sl)(a1 a2 a3:Int)(a4:ο)(a5 a6:Bool)(a7:Int):M Unit:=sh (G.dZ a0 a1 a2 a4) λx0=>if decide (x0.2=2) then sh (fE n a0 a1 a2 a4) λx1=>cY G n a0 a1 a2 a3 a4 a5 a6 a7 (i64.wrap (i64.wrap (a2-1)-i64.wrap (x0.1-a1))) 1 else cY G n a0 a1 a2 a3 a4 a5 a6 a7 x0.1 x0.2
def dQ (G:aa)(n:Nat)(a0:Sl)(a1 a2 a3:Int)(a4:ο)(a5 a6:Bool):M Unit:=if decide (i64.wrap (a2-a1)<=12) then sh (G.dK a0 a1 a2 a4) λx0=>AI () else if decide (a3=0) then sh (G.fj a0 a1 a2 a4) λx0=>AI () else if !a5 then sh (e9 n a0 a1 a2 a4) λx0=>cZ G n a0 a1 a2 (i64.wrap (a3-1)) a4 a5 a6 (i64.wrap (a2-a1)) else cZ G n a0 a1 a2 a3 a4 a5 a6 (i64.wrap (a2-a1))
def eO (G:aa)(n:Nat)(a0:Sl)(a1 a2 a3:Int)(a4:ο):M Unit:=sh (G.bB a0 a1 a2 a3 a4 true true) λx0=>AI ()
def jd (G:aa)(n:Nat)(a0 a1:θ)(a2:ν)(a3 a4:θ)(a5 a6:Sl)(a7 a8 a9:Int):M (Unit⊕Int):=sh (nn a3) λx0=>iX a5 a7 1 λx1=>sh (nn a4) λx2=>iX a6 a7 1 λx3=>lS x0 4 λx4=>eI x1 λx5=>iX x4 x5 1 λx6=>eI x6 λx7=>lS x2 4 λx8=>eI x3 λx9=>iX x8 x9 1 λx10=>eI x10 λx11=>sh (G.lW a0 x7 a1 x11 a2) λx12=>if !decide (x12=0) then AI (Sum.inr x12) else G.jC a0 a1 a2 a3 a4 a5 a6 a8 (i64.wrap (a9+1))
def sL (G:aa)(n:Nat)(a0 a1:θ)(a2:ν)(a3 a4:θ)(a5 a6:Sl)(a7 a8:Int):M (Unit⊕Int):=if decide (a8<a7) then sh (nn a3) λx0=>lI x0 0 λx1=>if decide (x1=10) then sh (nn a3) λx2=>iX a5 a8 1 λx3=>sh (nn a4) λx4=>iX a6 a8 1 λx5=>lS x2 3 λx6=>eI x3 λx7=>iX x6 x7 1 λx8=>eI x8 λx9=>lS x4 3 λx10=>eI x5 λx11=>iX x10 x11 1 λx12=>eI x12 λx13=>sh (G.lW a0 x9 a1 x13 none) λkH=>if !decide (kH=0) then AI (Sum.inr kH) else jd G n a0 a1 a2 a3 a4 a5 a6 a8 a7 a8 else jd G n a0 a1 a2 a3 a4 a5 a6 a8 a7 a8 else AI (Sum.inl ())
def wJ (G:aa)(n:Nat)(a0:θ)(a1:Int)(a2:θ)(a3:Int)(a4:ν):M Int:=sh (nn a0) λx0=>sh (nn a2) λx1=>lS (x0.plus 0) 0 λx2=>iX x2 a1 5 λx3=>lS (x1.plus 0) 0 λx4=>iX x4 a3 5 λx5=>sh (nn (some x3)) λx6=>sh (nn (some x5)) λx7=>lI x6 0 λx8=>lI x7 0 λx9=>if decide (x8<x9) then AI (-1) else sh (nn (some x3)) λx10=>sh (nn (some x5)) λx11=>lI x10 0 λx12=>lI x11 0 λx13=>if decide (x13<x12) then AI 1 else sh (nn (some x3)) λkH=>sh (nn (some x5)) λx15=>lB kH 2 λrJ=>lB x15 2 λx17=>if !rJ==x17 then sh (nn (some x5)) λxa=>lB xa 2 λx19=>if x19 then AI (-1) else AI 1 else sh (nn (some x3)) λxa=>sh (nn (some x3)) λx19=>sh (nn (some x5)) λx20=>lI xa 0 λx21=>lT x19 1 λx22=>lT x20 1 λx23=>sh (vI n x21 x22 x23) λx24=>if !decide (x24=0) then AI x24 else sh (G.eC a0 a1) λx25=>sh (G.eC a2 a3) λx26=>sh (G.jC a0 a2 a4 (some x3) (some x5) x25 x26 (if (↑x26.len:Int)<(↑x25.len:Int) then (↑x26.len:Int) else (↑x25.len:Int)) 0) (dU (λx27=>if decide ((↑x25.len:Int)<(↑x26.len:Int)) then AI (-1) else if decide ((↑x26.len:Int)<(↑x25.len:Int)) then AI 1 else AI 0) (λx27=>AI x27))
def eW (G:aa)(n:Nat)(a0:Sl)(a1 a2:Int)(a3:ο)(a4 a5:Int):M Unit:=iX a0 (i64.wrap (a5-1)) 1 λx0=>iX a0 a5 1 λx1=>eI x0 λx2=>eI x1 λx3=>iX a0 a5 1 λx4=>sN x4 [vi x2] λx5=>iX a0 (i64.wrap (a5-1)) 1 λx6=>sN x6 [vi x3] λx7=>G.bQ a0 a1 a2 a3 a4 (i64.wrap (a5-1))
def cB (G:aa)(n:Nat)(a0:Sl)(a1 a2:Int)(a3:ο)(a4 a5:Int):M Unit:=if decide (a1<a5) then iX a0 a5 1 λx0=>iX a0 (i64.wrap (a5-1)) 1 λx1=>eI x0 λx2=>eI x1 λx3=>sh (jm G n a3 x2 x3) λx4=>if decide (x4<0) then eW G n a0 a1 a2 a3 a4 a5 else AI () else AI ()
def cC (G:aa)(n:Nat)(a0:Sl)(a1 a2:Int)(a3:ο)(a4:Int):M Unit:=if decide (a4<a2) then sh (G.bQ a0 a1 a2 a3 a4 a4) λx0=>G.bR a0 a1 a2 a3 (i64.wrap (a4+1)) else AI ()
def gR (G:aa)(n:Nat)(a0:Sl)(a1 a2:Int)(a3:ο):M Unit:=sh (G.bR a0 a1 a2 a3 (i64.wrap (a1+1))) λx0=>AI ()
def dH (G:aa)(n:Nat)(a0:Sl)(a1:ο)(a2 a3 a4 a5:Int):M Unit:=if decide (0<=a5) then sh (G.dT a0 a5 a4 a2 a1) λx0=>G.cS a0 a1 a2 a3 a4 (i64.wrap (a5-1)) else AI ()
def dI (G:aa)(n:Nat)(a0:Sl)(a1:ο)(a2 a3 a4:Int):M Unit:=if decide (0<=a4) then iX a0 (i64.wrap (a2+a4)) 1 λx0=>iX a0 a2 1 λx1=>eI x0 λx2=>eI x1 λx3=>iX a0 a2 1 λx4=>sN x4 [vi x2] λx5=>iX a0 (i64.wrap (a2+a4)) 1 λx6=>sN x6 [vi x3] λx7=>sh (G.dT a0 a3 a4 a2 a1) λx8=>G.cT a0 a1 a2 a3 (i64.wrap (a4-1)) else AI ()
def jA (G:aa)(n:Nat)(a0:Sl)(a1 a2:Int)(a3:ο):M Unit:=sh (pI (decide (2≠0))) λx0=>sh (G.cS a0 a3 a1 0 (i64.wrap (a2-a1)) (i64.wrap ((i64.wrap (i64.wrap (a2-a1)-1)).tdiv 2))) λx1=>sh (G.cT a0 a3 a1 0 (i64.wrap (i64.wrap (a2-a1)-1))) λx2=>AI ()
def bO (G:aa)(n:Nat)(a0:Addr)(a1:Int):M (Int×Int):=eI a0 λx0=>if decide (x0=0) then AI (a1,1) else if decide (x0=12) then AI (a1,2) else AI (a1,0)
def iJ (G:aa)(n:Nat)(a0:Sl)(a1 a2:Int)(a3:ο):M (Int×Int):=nW av [vi 0] λx0=>sh (pI (decide (4≠0))) λx1=>sh (pI (decide (4≠0))) λx2=>sh (pI (decide (4≠0))) λx3=>if decide (8<=i64.wrap (a2-a1)) then if decide (50<=i64.wrap (a2-a1)) then sh (G.cd a0 (i64.wrap (a1+i64.wrap (i64.wrap ((i64.wrap (a2-a1)).tdiv 4)*1))) (some (ak x0)) a3) λx4=>sh (G.cd a0 (i64.wrap (a1+i64.wrap (i64.wrap ((i64.wrap (a2-a1)).tdiv 4)*2))) (some (ak x0)) a3) λx5=>sh (G.cd a0 (i64.wrap (a1+i64.wrap (i64.wrap ((i64.wrap (a2-a1)).tdiv 4)*3))) (some (ak x0)) a3) λx6=>sh (G.dE a0 x4 x5 x6 (some (ak x0)) a3) λx7=>bO G n (ak x0) x7 else sh (G.dE a0 (i64.wrap (a1+i64.wrap (i64.wrap ((i64.wrap (a2-a1)).tdiv 4)*1))) (i64.wrap (a1+i64.wrap (i64.wrap ((i64.wrap (a2-a1)).tdiv 4)*2))) (i64.wrap (a1+i64.wrap (i64.wrap ((i64.wrap (a2-a1)).tdiv 4)*3))) (some (ak x0)) a3) λx4=>bO G n (ak x0) x4 else bO G n (ak x0) (i64.wrap (a1+i64.wrap (i64.wrap ((i64.wrap (a2-a1)).tdiv 4)*2)))
def mS (G:aa)(n:Nat)(a0:Sl)(a1 a2:Int)(a3:ο)(a4 a5 a6:Int):M Unit:=if decide (1<=a6) then iX a0 a6 1 λx0=>iX a0 (i64.wrap (a6-1)) 1 λx1=>eI x0 λx2=>eI x1 λx3=>sh (gI G n a3 x2 x3) λx4=>if !decide (x4<0) then AI () else iX a0 (i64.wrap (a6-1)) 1 λx5=>iX a0 a6 1 λx6=>eI x5 λx7=>eI x6 λx8=>iX a0 a6 1 λx9=>sN x9 [vi x7] λx10=>iX a0 (i64.wrap (a6-1)) 1 λx11=>sN x11 [vi x8] λx12=>G.bC a0 a1 a2 a3 a4 a5 (i64.wrap (a6-1)) else AI ()
def mT (G:aa)(n:Nat)(a0:Sl)(a1 a2:Int)(a3:ο)(a4 a5 a6:Int):M Unit:=if decide (a6<a2) then iX a0 a6 1 λx0=>iX a0 (i64.wrap (a6-1)) 1 λx1=>eI x0 λx2=>eI x1 λx3=>sh (gm G n a3 x2 x3) λx4=>if !decide (x4<0) then AI () else iX a0 (i64.wrap (a6-1)) 1 λx5=>iX a0 a6 1 λx6=>eI x5 λx7=>eI x6 λx8=>iX a0 a6 1 λx9=>sN x9 [vi x7] λx10=>iX a0 (i64.wrap (a6-1)) 1 λx11=>sN x11 [vi x8] λx12=>G.bE a0 a1 a2 a3 a4 a5 (i64.wrap (a6+1)) else AI ()
def bt (G:aa)(n:Nat)(a0:Sl)(a1 a2:Int)(a3:ο)(a4 a5:Int):M Int:=if decide (a4<a2) then iX a0 a4 1 λx0=>iX a0 (i64.wrap (a4-1)) 1 λx1=>eI x0 λx2=>eI x1 λx3=>sh (gH G n a3 x2 x3) λx4=>if !decide (x4<0) then G.aS a0 a1 a2 a3 (i64.wrap (a4+1)) a5 else AI a4 else AI a4
def dB (G:aa)(n:Nat)(a0:Sl)(a1 a2:Int)(a3:ο)(a4 a5:Int):M (Unit⊕Bool):=if decide (2<=i64.wrap (a2-a4)) then sh (G.bE a0 a1 a2 a3 a4 a5 (i64.wrap (a4+1))) λx0=>G.aT a0 a1 a2 a3 a4 (i64.wrap (a5+1)) else G.aT a0 a1 a2 a3 a4 (i64.wrap (a5+1))
def dW (G:aa)(n:Nat)(a0:Sl)(a1 a2:Int)(a3:ο)(a4 a5:Int):M (Unit⊕Bool):=if decide (a5<5) then sh (G.aS a0 a1 a2 a3 a4 a5) λx0=>if decide (x0=a2) then AI (Sum.inr true) else if decide (i64.wrap (a2-a1)<50) then AI (Sum.inr false) else iX a0 (i64.wrap (x0-1)) 1 λx1=>iX a0 x0 1 λx2=>eI x1 λx3=>eI x2 λx4=>iX a0 x0 1 λx5=>sN x5 [vi x3] λx6=>iX a0 (i64.wrap (x0-1)) 1 λx7=>sN x7 [vi x4] λx8=>if decide (2<=i64.wrap (x0-a1)) then sh (G.bC a0 a1 a2 a3 x0 a5 (i64.wrap (x0-1))) λx9=>dB G n a0 a1 a2 a3 x0 a5 else dB G n a0 a1 a2 a3 x0 a5 else AI (Sum.inl ())
def eJ (G:aa)(n:Nat)(a0:Sl)(a1 a2:Int)(a3:ο):M Bool:=sh (G.aT a0 a1 a2 a3 (i64.wrap (a1+1)) 0) (dU (λx0=>AI false) (λx0=>AI x0))
def bY (G:aa)(n:Nat)(a0:Sl)(a1:Int)(a2:ο)(a3 a4:Int):M Int:=if decide (a3<=a4) then iX a0 a1 1 λx0=>iX a0 a4 1 λx1=>eI x0 λx2=>eI x1 λx3=>sh (jc G n a2 x2 x3) λx4=>if decide (x4<0) then G.bF a0 a1 a2 a3 (i64.wrap (a4-1)) else AI a4 else AI a4
def bZ (G:aa)(n:Nat)(a0:Sl)(a1:Int)(a2:ο)(a3 a4:Int):M Int:=if decide (a3<=a4) then iX a0 a1 1 λx0=>iX a0 a3 1 λx1=>eI x0 λx2=>eI x1 λx3=>sh (jb G n a2 x2 x3) λx4=>if !decide (x4<0) then G.bG a0 a1 a2 (i64.wrap (a3+1)) a4 else AI a3 else AI a3
def b7 (G:aa)(n:Nat)(a0:Sl)(a1:Int)(a2:ο)(a3 a4:Int):M Int:=sh (G.bG a0 a1 a2 a3 a4) λx0=>sh (G.bF a0 a1 a2 x0 a4) λx1=>if decide (x1<x0) then AI x0 else iX a0 x1 1 λx2=>iX a0 x0 1 λx3=>eI x2 λx4=>eI x3 λx5=>iX a0 x0 1 λx6=>sN x6 [vi x4] λx7=>iX a0 x1 1 λx8=>sN x8 [vi x5] λx9=>G.bH a0 a1 a2 (i64.wrap (x0+1)) (i64.wrap (x1-1))
def gC (G:aa)(n:Nat)(a0:Sl)(a1 a2 a3:Int)(a4:ο):M Int:=iX a0 a3 1 λx0=>iX a0 a1 1 λx1=>eI x0 λx2=>eI x1 λx3=>iX a0 a1 1 λx4=>sN x4 [vi x2] λx5=>iX a0 a3 1 λx6=>sN x6 [vi x3] λx7=>sh (G.bH a0 a1 a4 (i64.wrap (a1+1)) (i64.wrap (a2-1))) λx8=>AI x8
def dj (G:aa)(n:Nat)(a0:Sl)(a1:Int)(a2:ο)(a3 a4:Int):M Int:=if decide (a3<=a4) then iX a0 a4 1 λx0=>iX a0 a1 1 λx1=>eI x0 λx2=>eI x1 λx3=>sh (kh G n a2 x2 x3) λx4=>if !decide (x4<0) then G.cJ a0 a1 a2 a3 (i64.wrap (a4-1)) else AI a4 else AI a4
def dq (G:aa)(n:Nat)(a0:Sl)(a1:Int)(a2:ο)(a3 a4:Int):M Int:=if decide (a3<=a4) then iX a0 a3 1 λx0=>iX a0 a1 1 λx1=>eI x0 λx2=>eI x1 λx3=>sh (ke G n a2 x2 x3) λx4=>if decide (x4<0) then G.cK a0 a1 a2 (i64.wrap (a3+1)) a4 else AI a3 else AI a3
def du (G:aa)(n:Nat)(a0:Sl)(a1:Int)(a2:ο)(a3 a4:Int):M Int:=sh (G.cK a0 a1 a2 a3 a4) λx0=>sh (G.cJ a0 a1 a2 x0 a4) λx1=>if decide (x1<x0) then AI x1 else iX a0 x1 1 λx2=>iX a0 x0 1 λx3=>eI x2 λx4=>eI x3 λx5=>iX a0 x0 1 λx6=>sN x6 [vi x4] λx7=>iX a0 x1 1 λx8=>sN x8 [vi x5] λx9=>G.cM a0 a1 a2 (i64.wrap (x0+1)) (i64.wrap (x1-1))
def dv (G:aa)(n:Nat)(a0:Sl)(a1:Int)(a2:ο)(a3 a4:Int):M Int:=if decide (a3<=a4) then iX a0 a4 1 λx0=>iX a0 a1 1 λx1=>eI x0 λx2=>eI x1 λx3=>sh (kJ G n a2 x2 x3) λx4=>if !decide (x4<0) then G.cN a0 a1 a2 a3 (i64.wrap (a4-1)) else AI a4 else AI a4
def dw (G:aa)(n:Nat)(a0:Sl)(a1:Int)(a2:ο)(a3 a4:Int):M Int:=if decide (a3<=a4) then iX a0 a3 1 λx0=>iX a0 a1 1 λx1=>eI x0 λx2=>eI x1 λx3=>sh (kI G n a2 x2 x3) λx4=>if decide (x4<0) then G.cO a0 a1 a2 (i64.wrap (a3+1)) a4 else AI a3 else AI a3
def je (G:aa)(n:Nat)(a0:Sl)(a1 a2 a3:Int)(a4:ο):M (Int×Bool):=iX a0 a3 1 λx0=>iX a0 a1 1 λx1=>eI x0 λx2=>eI x1 λx3=>iX a0 a1 1 λx4=>sN x4 [vi x2] λx5=>iX a0 a3 1 λx6=>sN x6 [vi x3] λx7=>sh (G.cO a0 a1 a4 (i64.wrap (a1+1)) (i64.wrap (a2-1))) λx8=>sh (G.cN a0 a1 a4 x8 (i64.wrap (a2-1))) λx9=>if decide (x9<x8) then iX a0 a1 1 λx10=>iX a0 x9 1 λx11=>eI x10 λx12=>eI x11 λx13=>iX a0 x9 1 λkH=>sN kH [vi x12] λx15=>iX a0 a1 1 λrJ=>sN rJ [vi x13] λx17=>AI (x9,true) else iX a0 x9 1 λx10=>iX a0 x8 1 λx11=>eI x10 λx12=>eI x11 λx13=>iX a0 x8 1 λkH=>sN kH [vi x12] λx15=>iX a0 x9 1 λrJ=>sN rJ [vi x13] λx17=>sh (G.cM a0 a1 a4 (i64.wrap (x8+1)) (i64.wrap (x9-1))) λxa=>iX a0 a1 1 λx19=>iX a0 xa 1 λx20=>eI x19 λx21=>eI x20 λx22=>iX a0 xa 1 λx23=>sN x23 [vi x21] λx24=>iX a0 a1 1 λx25=>sN x25 [vi x22] λx26=>AI (xa,false)
def bP (G:aa)(n:Nat)(a0:Sl)(a1 a2:Int)(a3:ο)(a4 a5:Int):M (Unit⊕Unit):=iX a0 (i64.wrap (a2+a4)) 1 λx0=>iX a0 (i64.wrap (a2+a5)) 1 λx1=>eI x0 λx2=>eI x1 λx3=>sh (lE G n a3 x2 x3) λx4=>if !decide (x4<0) then AI (Sum.inr ()) else iX a0 (i64.wrap (a2+a5)) 1 λx5=>iX a0 (i64.wrap (a2+a4)) 1 λx6=>eI x5 λx7=>eI x6 λx8=>iX a0 (i64.wrap (a2+a4)) 1 λx9=>sN x9 [vi x7] λx10=>iX a0 (i64.wrap (a2+a5)) 1 λx11=>sN x11 [vi x8] λx12=>G.cV a0 a1 a2 a3 a5
def dJ (G:aa)(n:Nat)(a0:Sl)(a1 a2:Int)(a3:ο)(a4:Int):M (Unit⊕Unit):=if decide (a1<=i64.wrap (i64.wrap (2*a4)+1)) then AI (Sum.inl ()) else if decide (i64.wrap (i64.wrap (i64.wrap (2*a4)+1)+1)<a1) then iX a0 (i64.wrap (a2+i64.wrap (i64.wrap (2*a4)+1))) 1 λx0=>iX a0 (i64.wrap (i64.wrap (a2+i64.wrap (i64.wrap (2*a4)+1))+1)) 1 λx1=>eI x0 λx2=>eI x1 λx3=>sh (lD G n a3 x2 x3) λx4=>if decide (x4<0) then bP G n a0 a1 a2 a3 a4 (i64.wrap (i64.wrap (i64.wrap (2*a4)+1)+1)) else bP G n a0 a1 a2 a3 a4 (i64.wrap (i64.wrap (2*a4)+1)) else bP G n a0 a1 a2 a3 a4 (i64.wrap (i64.wrap (2*a4)+1))
def jB (G:aa)(n:Nat)(a0:Sl)(a1 a2 a3:Int)(a4:ο):M Unit:=sh (G.cV a0 a2 a3 a4 a1) (dU (λx0=>AI ()) (λx0=>AI ()))
def rl (G:aa)(n:Nat)(a0:Sl)(a1:Int)(a2:θ)(a3:ο):M Int:=sh (G.dE a0 (i64.wrap (a1-1)) a1 (i64.wrap (a1+1)) a2 a3) λx0=>AI x0
def kp (G:aa)(n:Nat)(a0:Sl)(a1 a2 a3:Int)(a4:θ)(a5:ο):M Int:=sh (G.dG a0 a1 a2 a4 a5) λx0=>sh (G.dG a0 x0.2 a3 a4 a5) λx1=>sh (G.dG a0 x0.1 x1.1 a4 a5) λx2=>AI x2.2
def kq (G:aa)(n:Nat)(a0:Sl)(a1 a2:Int)(a3:θ)(a4:ο):M (Int×Int):=iX a0 a2 1 λx0=>iX a0 a1 1 λx1=>eI x0 λx2=>eI x1 λx3=>sh (mI G n a4 x2 x3) λx4=>if decide (x4<0) then sh (nn a3) λx5=>eI x5 λx6=>sh (nn a3) λx7=>sN x7 [vi (i64.wrap (x6+1))] λx8=>AI (a2,a1) else AI (a1,a2)
def aa.at:Nat->aa|0=>⟨λ_ _ _ _ _ _=>AS,λ_ _=>AS,λ_ _=>AS,λ_ _ _ _=>AS,λ_ _ _ _ _=>AS,λ_ _ _ _ _ _ _=>AS,λ_ _ _ _ _=>AS,λ_ _ _ _ _ _ _ _ _=>AS,λ_ _ _ _ _=>AS,λ_ _ _ _ _ _=>AS,λ_ _ _ _ _=>AS,λ_ _ _ _=>AS,λ_ _ _ _ _ _=>AS,λ_ _ _ _ _=>AS,λ_ _ _ _=>AS,λ_ _ _ _=>AS,λ_ _ _ _ _ _ _=>AS,λ_ _ _ _ _ _ _=>AS,λ_ _ _ _ _ _=>AS,λ_ _ _ _ _ _=>AS,λ_ _ _ _=>AS,λ_ _ _ _ _=>AS,λ_ _ _ _ _=>AS,λ_ _ _ _ _=>AS,λ_ _ _ _ _=>AS,λ_ _ _ _ _=>AS,λ_ _ _ _ _=>AS,λ_ _ _ _ _=>AS,λ_ _ _ _ _=>AS,λ_ _ _ _ _=>AS,λ_ _ _ _ _=>AS,λ_ _ _ _ _=>AS,λ_ _ _ _ _=>AS,λ_ _ _ _=>AS,λ_ _ _ _ _ _=>AS,λ_ _ _ _ _=>AS⟩|n+1=>⟨lU (aa.at n) n,oG (aa.at n) n,kM (aa.at n) n,mJ (aa.at n) n,ve (aa.at n) n,dQ (aa.at n) n,eO (aa.at n) n,sL (aa.at n) n,wJ (aa.at n) n,cB (aa.at n) n,cC (aa.at n) n,gR (aa.at n) n,dH (aa.at n) n,dI (aa.at n) n,jA (aa.at n) n,iJ (aa.at n) n,mS (aa.at n) n,mT (aa.at n) n,bt (aa.at n) n,dW (aa.at n) n,eJ (aa.at n) n,bY (aa.at n) n,bZ (aa.at n) n,b7 (aa.at n) n,gC (aa.at n) n,dj (aa.at n) n,dq (aa.at n) n,du (aa.at n) n,dv (aa.at n) n,dw (aa.at n) n,je (aa.at n) n,dJ (aa.at n) n,jB (aa.at n) n,rl (aa.at n) n,kp (aa.at n) n,kq (aa.at n) n⟩
def fF (n:Nat):=(aa.at n).fF
def eC (n:Nat):=(aa.at n).eC
def dS (n:Nat):=(aa.at n).dS
def kC (n:Nat):=(aa.at n).kC
def lW (n:Nat):=(aa.at n).lW
def bB (n:Nat):=(aa.at n).bB
def db (n:Nat):=(aa.at n).db
def jC (n:Nat):=(aa.at n).jC
def sM (n:Nat):=(aa.at n).sM
def bQ (n:Nat):=(aa.at n).bQ
def bR (n:Nat):=(aa.at n).bR
def dK (n:Nat):=(aa.at n).dK
def cS (n:Nat):=(aa.at n).cS
def cT (n:Nat):=(aa.at n).cT
def fj (n:Nat):=(aa.at n).fj
def dZ (n:Nat):=(aa.at n).dZ
def bC (n:Nat):=(aa.at n).bC
def bE (n:Nat):=(aa.at n).bE
def aS (n:Nat):=(aa.at n).aS
def aT (n:Nat):=(aa.at n).aT
def bV (n:Nat):=(aa.at n).bV
def bF (n:Nat):=(aa.at n).bF
def bG (n:Nat):=(aa.at n).bG
def bH (n:Nat):=(aa.at n).bH
def dz (n:Nat):=(aa.at n).dz
def cJ (n:Nat):=(aa.at n).cJ
def cK (n:Nat):=(aa.at n).cK
def cM (n:Nat):=(aa.at n).cM
def cN (n:Nat):=(aa.at n).cN
def cO (n:Nat):=(aa.at n).cO
def eP (n:Nat):=(aa.at n).eP
def cV (n:Nat):=(aa.at n).cV
def dT (n:Nat):=(aa.at n).dT
def cd (n:Nat):=(aa.at n).cd
def dE (n:Nat):=(aa.at n).dE
def dG (n:Nat):=(aa.at n).dG
def uM (n:Nat):=aw (aa.at n) n
def qD (n:Nat):=jm (aa.at n) n
def nI (n:Nat):=gH (aa.at n) n
def nJ (n:Nat):=gI (aa.at n) n
def mU (n:Nat):=gm (aa.at n) n
def qj (n:Nat):=jb (aa.at n) n
def qk (n:Nat):=jc (aa.at n) n
def s7 (n:Nat):=kI (aa.at n) n
def s9 (n:Nat):=kJ (aa.at n) n
def sO (n:Nat):=ke (aa.at n) n
def sP (n:Nat):=kh (aa.at n) n
def tX (n:Nat):=lD (aa.at n) n
def tY (n:Nat):=lE (aa.at n) n
def vf (n:Nat):=mI (aa.at n) n
def zo (n:Nat):=lV (aa.at n) n
def ta (n:Nat):=cZ (aa.at n) n
def td (n:Nat):=cY (aa.at n) n
def tf (n:Nat):=bh (aa.at n) n
def th (n:Nat):=cX (aa.at n) n
def Dl (n:Nat):=jd (aa.at n) n
def pY (n:Nat):=eW (aa.at n) n
def sQ (n:Nat):=bO (aa.at n) n
def mK (n:Nat):=dB (aa.at n) n
def sR (n:Nat):=bP (aa.at n) n
abbrev Zc (n:Nat):dV:=eN 36 [vW,az] [cp] (eC n)
abbrev ah8:=L1 (bL 175) [(1,az),(2,aG),(5,aG),(6,cp),(37,az),(38,az)] [] ([7]++rG 38 8) 0 fF
abbrev Zd (n:Nat):dV:=eN 50 [cp,tL] [] (dS n)
abbrev Ze (n:Nat):dV:=eN 51 [az,az,aG,aG] [az] (kC n)
abbrev Zf (n:Nat):dV:=eN 52 [vW,az,vW,az,tyM] [az] (lW n)
abbrev Zg (n:Nat):dV:=eN 64 [cp,az,az,az,tL] [] (db n)
abbrev ah9:=Lr [0,1,1] [(0,cp),(1,az),(2,az),(3,az),(4,tL),(10,jE),(11,jE)] [] ([1,2,3]++rG 10 138) bB
abbrev Zh (n:Nat):dV:=eN 66 [vW,az,vW,az,tyM] [az] (sM n)
abbrev aia:=L2 (bL 351) [(0,vW),(2,vW),(4,tyM),(11,vW),(12,vW),(14,cp),(15,cp),(93,az),(94,az)] [] [(10,az)] ([10,16,17,18]++rG 94 62) 1 .ret jC
abbrev Zi (n:Nat):dV:=eN 77 [cp,az,az,tL] [] (dK n)
abbrev aib:=L1 [0,1] [(0,cp),(1,az),(2,az),(3,tL),(8,az)] [] ([8,9]++rG 12 41) 0 bR
abbrev aic:=L1 (bL 329) [(0,cp),(1,az),(2,az),(3,tL),(8,az),(9,az)] [] ([9]++rG 18 35) 2 bQ
abbrev Zj (n:Nat):dV:=eN 78 [cp,az,az,tL] [] (fj n)
abbrev aid:=L1 (bL 87) [(0,cp),(3,tL),(8,az),(9,az),(10,az),(11,az)] [] ([11]++rG 20 10) 0 cS
abbrev aie:=L1 (bL 95) [(0,cp),(3,tL),(8,az),(9,az),(12,az)] [] ([12]++rG 32 28) 2 cT
abbrev Zk (n:Nat):dV:=eN 80 [cp,az,az,tL] [az,az] (dZ n)
abbrev Zl (n:Nat):dV:=eN 82 [cp,az,az,tL] [jE] (bV n)
abbrev aif:=L2 [0,1,0,1,1] [(0,cp),(1,az),(2,az),(3,tL),(9,az),(10,az)] [] [(8,jE)] (rG 8 5++rG 15 126) 0 .ret aT
abbrev aih:=L1 (bL 2123) [(0,cp),(1,az),(2,az),(3,tL),(9,az),(10,az)] [(9,az)] ([9]++rG 19 20) 2 aS
abbrev aii:=L1 (bL 351819) [(0,cp),(1,az),(2,az),(3,tL),(9,az),(10,az),(11,az)] [] ([11]++rG 68 33) 4 bC
abbrev aij:=L1 (bL 360011) [(0,cp),(1,az),(2,az),(3,tL),(9,az),(10,az),(12,az)] [] ([12]++rG 107 34) 6 bE
abbrev Zm (n:Nat):dV:=eN 83 [cp,az,az,az,tL] [az] (dz n)
abbrev aik:=L1 [0,0,1,1,1] [(0,cp),(1,az),(4,tL),(11,az),(12,az)] [(11,az)] ([11,12]++rG 31 58) 0 bH
abbrev ail:=L1 (bL 519) [(0,cp),(1,az),(4,tL),(11,az),(12,az)] [(11,az)] ([11]++rG 31 19) 2 bG
abbrev aim:=L1 (bL 1159) [(0,cp),(1,az),(4,tL),(11,az),(12,az)] [(12,az)] ([12]++rG 50 18) 4 bF
abbrev Zn (n:Nat):dV:=eN 84 [cp,az,az,az,tL] [az,jE] (eP n)
abbrev ain:=L1 [0,0,1,1,1] [(0,cp),(1,az),(4,tL),(12,az),(13,az)] [(12,az)] ([12]++rG 32 18) 0 cO
abbrev aio:=L1 (bL 79) [(0,cp),(1,az),(4,tL),(12,az),(13,az)] [(13,az)] ([13]++rG 50 19) 2 cN
abbrev aip:=L1 (bL 2559) [(0,cp),(1,az),(4,tL),(12,az),(13,az)] [(13,az)] ([12,13]++rG 105 58) 4 cM
abbrev aiq:=L1 (bL 33279) [(0,cp),(1,az),(4,tL),(12,az),(13,az)] [(12,az)] ([12]++rG 105 18) 6 cK
abbrev air:=L1 (bL 74239) [(0,cp),(1,az),(4,tL),(12,az),(13,az)] [(13,az)] ([13]++rG 123 19) 8 cJ
abbrev QR (n:Nat):dV:=eN 111 [cp,az,az,az,tL] [] (dT n)
abbrev ac3:=L2 [0,1] [(0,cp),(2,az),(3,az),(4,tL),(10,az)] [] [] ([10,11]++rG 13 69) 0 .ret cV
abbrev QS (n:Nat):dV:=eN 114 [cp,az,vW,tL] [az] (cd n)
abbrev QT (n:Nat):dV:=eN 115 [cp,az,az,az,vW,tL] [az] (dE n)
abbrev QU (n:Nat):dV:=eN 141 [cp,az,az,vW,tL] [az,az] (dG n)
abbrev C13 (n:Nat):List dV:=Zc n::Zd n::Ze n::Zf n::Zg n::Zh n::Zi n::Zj n::Zk n::Zl n::Zm n::Zn n::QR n::QS n::QT n::QU n::C12 n
abbrev ais (n:Nat):List (iU Sl):=[jN (bL 351) [.code (bL 127)] [(1,az),(2,aG),(5,aG),(6,cp)] (zo n)]
def ait:=dR [(1,[5,13]++rG 0 5++rG 6 7++[14,15,16,17])]
abbrev aiu (n:Nat):List rF:=[dN 84 [az,az] [az] (uM n)]
def Zo:=dR [(17,rG 0 8++[9,10,11,8]++rG 12 5)]
abbrev Vx (n:Nat):List (iU Unit):=[jN (bL 1507) [.code (bL 2019),.au 1] [(0,cp),(1,az),(2,az),(3,az),(4,tL),(10,jE),(11,jE),(12,az)] (ta n), jN (bL 10211) [.code (bL 14307),.code (bL 8163),.au 1] [(0,cp),(1,az),(2,az),(3,az),(4,tL),(10,jE),(11,jE),(12,az),(13,az),(14,az)] (td n), jN (bL 20451) [.code (bL 28643),.code (bL 16355),.au 1] [(0,cp),(1,az),(2,az),(3,az),(4,tL),(10,jE),(11,jE),(12,az),(13,az)] (tf n), jN (bL 24547) [.code (bL 32739),.au 1] [(0,cp),(1,az),(2,az),(3,az),(4,tL),(10,jE),(11,jE),(12,az),(13,az)] (th n)]
def Zp:=dR [(1,[0,1,2,3,5,7,8,9,10,12,4,6,14,11,13,15]),(2,[0,1,2,4,5,6,3,7,8,9]),(4,[0,1,2,4,5,6,3,7,8,9]),(6,[0,1,2,4,5,6,3,7,8,9]),(10,[0,1,2,4,5,6,8,9,10,3,7,11,12,13]),(18,[0,1,2,3,5,6,7,11,12,13,14,16,17,18,4,8,9,10,15]++rG 19 5),(21,[0,1,2,3,5,6,7,11,12,13,14,16,17,18,22,4,8,9,10,15,19,20,21,23,24])]
abbrev Vy (n:Nat):List (iU (Unit⊕Int)):=[jN (bL 91743) [.code (bL 124511),.au 2,.code (bL 7775)] [(0,vW),(2,vW),(4,tyM),(11,vW),(12,vW),(14,cp),(15,cp),(16,az),(93,az),(94,az)] (Dl n)]
abbrev aiv (n:Nat):List rF:=[dN 22 [az,az] [az] (qD n)]
def QV:=dR [(4,rG 0 8++[9,10,11,12,8,13,14,15,16]),(6,rG 0 9++[10,11,12,9]++rG 13 5)]
abbrev Vz (n:Nat):List (iU Unit):=[jN (bL 4681) [.au 3,.code (bL 3657)] [(0,cp),(1,az),(2,az),(3,tL),(8,az),(9,az)] (pY n)]
def QW:=dR [(10,rG 0 11++[12,13,14,11]++rG 15 5)]
abbrev aiw (n:Nat):List (iU (Int×Int)):=[jN (bL 383) [.code (bL 511)] [(11,aG),(13,az)] (sQ n)]
abbrev aix (n:Nat):List rF:=[dN 23 [az,az] [az] (nI n), dN 72 [az,az] [az] (nJ n), dN 112 [az,az] [az] (mU n)]
def Ij:=dR [(5,rG 0 8++[9,10,11,12,8]++rG 13 5),(11,rG 0 9++[10,11,12,9]++rG 13 5),(16,[0,1,2,3,5,6,7,8,4,9,10,11,12]),(17,rG 0 9++[10,11,12,9]++rG 13 5),(22,[0,1,2,3,5,6,7,8,4,9,10,11,12]),(23,rG 0 9++[10,11,12,9]++rG 13 5)]
abbrev VA (n:Nat):List (iU (Unit⊕Bool)):=[jN (bL 48715) [.code (bL 65099),.au 1,.code (bL 459)] [(0,cp),(1,az),(2,az),(3,tL),(9,az),(10,az)] (mK n)]
abbrev aiy (n:Nat):List rF:=[dN 35 [az,az] [az] (qj n), dN 54 [az,az] [az] (qk n)]
def LV:=dR [(1,rG 0 7++[8,9,10,7]++rG 11 5),(3,rG 0 8++[9,10,11,8]++rG 12 5),(5,rG 0 8++[9,10,11,8,12,13,14,15]),(8,rG 0 7++[8,9,10,7]++rG 11 5)]
abbrev aiz (n:Nat):List rF:=[dN 36 [az,az] [az] (s7 n), dN 54 [az,az] [az] (s9 n), dN 109 [az,az] [az] (sO n), dN 127 [az,az] [az] (sP n)]
def Fo:=dR [(1,rG 0 7++[8,9,10,7]++rG 11 5),(3,rG 0 8++[9,10,11,8,12,13,14,15]),(5,rG 0 8++[9,10,11,8]++rG 12 5),(8,rG 0 7++[8,9,10,7]++rG 11 5),(10,rG 0 7++[8,9,10,7]++rG 11 5),(13,rG 0 8++[9,10,11,8,12,13,14,15]),(15,rG 0 8++[9,10,11,8]++rG 12 5),(18,rG 0 7++[8,9,10,7]++rG 11 5),(21,rG 0 7++[8,9,10,7]++rG 11 5)]
abbrev ac4 (n:Nat):List rF:=[dN 24 [az,az] [az] (tX n), dN 43 [az,az] [az] (tY n)]
def SA:=dR [(3,rG 0 11++rG 12 6++[11,18,19,20,21]),(5,rG 0 6++rG 7 5++[6,12,13,14,15]),(6,rG 0 13++rG 14 5++[13]++rG 19 5)]
abbrev QX (n:Nat):List (iU (Unit⊕Unit)):=[jN (bL 625) [.code (bL 881),.code (bL 497),.au 1] [(0,cp),(2,az),(3,az),(4,tL),(10,az),(11,az)] (sR n)]
abbrev ac5 (n:Nat):List rF:=[dN 12 [az,az] [az] (vf n)]
def ac6:=dR [(1,[0,1,2,3,5,6,7,4,8,9,10])]
def ao (n:Nat):Prop:=aH TZp (Zc n)/\aH TZp (Zd n)/\aH TZp (Ze n)/\aH TZp (Zf n)/\aH TZp (Zg n)/\aH TZp (Zh n)/\aH TZp (Zi n)/\aH TZp (Zj n)/\aH TZp (Zk n)/\aH TZp (Zl n)/\aH TZp (Zm n)/\aH TZp (Zn n)/\aH TZp (QR n)/\aH TZp (QS n)/\aH TZp (QT n)/\aH TZp (QU n)
def iQ (n:Nat)(H:ao n):eY TZp (C13 n):=.cons H.1 (.cons H.2.1 (.cons H.2.2.1 (.cons H.2.2.2.1 (.cons H.2.2.2.2.1 (.cons H.2.2.2.2.2.1 (.cons H.2.2.2.2.2.2.1 (.cons H.2.2.2.2.2.2.2.1 (.cons H.2.2.2.2.2.2.2.2.1 (.cons H.2.2.2.2.2.2.2.2.2.1 (.cons H.2.2.2.2.2.2.2.2.2.2.1 (.cons H.2.2.2.2.2.2.2.2.2.2.2.1 (.cons H.2.2.2.2.2.2.2.2.2.2.2.2.1 (.cons H.2.2.2.2.2.2.2.2.2.2.2.2.2.1 (.cons H.2.2.2.2.2.2.2.2.2.2.2.2.2.2.1 (.cons H.2.2.2.2.2.2.2.2.2.2.2.2.2.2.2 (K12 n))))))))))))))))
def VB (n:Nat)(H:Hy ao n):=ah8.k TZp Tryz.f36 n (hT:=λm hm=>.m1 (iQ m ((H.d hm).s)))
def vJ (n:Nat)(H:Hy ao n):aH TZp (Zc (n+1)):=bf Tryz.f36 (js:=ais n) (hT:=⟨.nil,iQ n (H.s),.nil,(.cc (VB n H) .nil),(.cc .nil)⟩)
def tj (n:Nat)(H:Hy ao n):aH TZp (Zd (n+1)):=bf Tryz.f50 (hT:=.m1 (iQ n (H.s)))
def uN (n:Nat)(H:Hy ao n):aH TZp (Ze (n+1)):=bf Tryz.f51 (dr:=ait) (hT:=.m1 (iQ n (H.s)))
def Aj (n:Nat)(H:Hy ao n):aH TZp (Zf (n+1)):=bf Tryz.f52 (hT:=.m1 (iQ n (H.s)))
def Zq (n:Nat)(H:ao n):qU TZp (aiu n):=.cons (di (.cons (oT [aG,aG] (H).2.2.1) .nil)) .nil
def VC (n:Nat)(H:Hy ao n):=ah9.k TZp Tryz.f64 n (dr:=Zo) (jt:=Vx) (hT:=λm hm=>⟨.nil,iQ m ((H.d hm).s),(Zq m ((H.d hm).s)),.nil,(.cc (.cc (.cc (.cc .nil))))⟩)
def rI (n:Nat)(H:Hy ao n):aH TZp (Zg (n+1)):=bf Tryz.f64 (dr:=Zo) (hT:=⟨.nil,iQ n (H.s),(Zq n (H.s)),(.cc (VC n H) .nil),.nil⟩)
def VD (n:Nat)(H:Hy ao n):=aia.k TZp Tryz.f66 n (dr:=Zp) (jt:=Vy) (hT:=λm hm=>.m3 (iQ m ((H.d hm).s)) (.cc .nil))
def A8 (n:Nat)(H:Hy ao n):aH TZp (Zh (n+1)):=bf Tryz.f66 (dr:=Zp) (hT:=.m2 (iQ n (H.s)) (.cc (VD n H) .nil))
def QY (n:Nat)(H:ao n):qU TZp (aiv n):=.cons (di (.cons (oT [aG,aG] (H).2.2.1) .nil)) .nil
def VE (n:Nat)(H:Hy ao n):=aic.k TZp Tryz.f77 n (dr:=QV) (jt:=Vz) (hT:=λm hm=>⟨.nil,iQ m ((H.d hm).s),(QY m ((H.d hm).s)),.nil,(.cc .nil)⟩)
def VF (n:Nat)(H:Hy ao n):=aib.k TZp Tryz.f77 n (dr:=QV) (hT:=λm hm=>⟨.nil,iQ m ((H.d hm).s),(QY m ((H.d hm).s)),(.cc (VE m (H.d hm)) .nil),.nil⟩)
def oR (n:Nat)(H:Hy ao n):aH TZp (Zi (n+1)):=bf Tryz.f77 (dr:=QV) (hT:=⟨.nil,iQ n (H.s),(QY n (H.s)),(.cc (VF n H) .nil),.nil⟩)
def VG (n:Nat)(H:Hy ao n):=aid.k TZp Tryz.f78 n (dr:=QW) (hT:=λm hm=>.m1 (iQ m ((H.d hm).s)))
def VH (n:Nat)(H:Hy ao n):=aie.k TZp Tryz.f78 n (dr:=QW) (hT:=λm hm=>.m1 (iQ m ((H.d hm).s)))
def rm (n:Nat)(H:Hy ao n):aH TZp (Zj (n+1)):=bf Tryz.f78 (dr:=QW) (hT:=.m2 (iQ n (H.s)) (.cc (VG n H) (.cc (VH n H) .nil)))
def pZ (n:Nat)(H:Hy ao n):aH TZp (Zk (n+1)):=bf Tryz.f80 (js:=aiw n) (hT:=.m3 (iQ n (H.s)) (.cc .nil))
def Ik (n:Nat)(H:ao n):qU TZp (aix n):=.cons (di (.cons (oT [aG,aG] (H).2.2.1) .nil)) (.cons (di (.cons (oT [aG,aG] (H).2.2.1) .nil)) (.cons (di (.cons (oT [aG,aG] (H).2.2.1) .nil)) .nil))
def VI (n:Nat)(H:Hy ao n):=aii.k TZp Tryz.f82 n (dr:=Ij) (hT:=λm hm=>⟨.nil,iQ m ((H.d hm).s),(Ik m ((H.d hm).s)),.nil,.nil⟩)
def VJ (n:Nat)(H:Hy ao n):=aij.k TZp Tryz.f82 n (dr:=Ij) (hT:=λm hm=>⟨.nil,iQ m ((H.d hm).s),(Ik m ((H.d hm).s)),.nil,.nil⟩)
def VK (n:Nat)(H:Hy ao n):=aih.k TZp Tryz.f82 n (dr:=Ij) (hT:=λm hm=>⟨.nil,iQ m ((H.d hm).s),(Ik m ((H.d hm).s)),.nil,.nil⟩)
def VL (n:Nat)(H:Hy ao n):=aif.k TZp Tryz.f82 n (dr:=Ij) (jt:=VA) (hT:=λm hm=>⟨.nil,iQ m ((H.d hm).s),(Ik m ((H.d hm).s)),(.cc (VK m (H.d hm)) (.cc (VI m (H.d hm)) (.cc (VJ m (H.d hm)) .nil))),(.cc .nil)⟩)
def lX (n:Nat)(H:Hy ao n):aH TZp (Zl (n+1)):=bf Tryz.f82 (dr:=Ij) (hT:=⟨.nil,iQ n (H.s),(Ik n (H.s)),(.cc (VL n H) .nil),.nil⟩)
def LW (n:Nat)(H:ao n):qU TZp (aiy n):=.cons (di (.cons (oT [aG,aG] (H).2.2.1) .nil)) (.cons (di (.cons (oT [aG,aG] (H).2.2.1) .nil)) .nil)
def VM (n:Nat)(H:Hy ao n):=aim.k TZp Tryz.f83 n (dr:=LV) (hT:=λm hm=>⟨.nil,iQ m ((H.d hm).s),(LW m ((H.d hm).s)),.nil,.nil⟩)
def VN (n:Nat)(H:Hy ao n):=ail.k TZp Tryz.f83 n (dr:=LV) (hT:=λm hm=>⟨.nil,iQ m ((H.d hm).s),(LW m ((H.d hm).s)),.nil,.nil⟩)
def VO (n:Nat)(H:Hy ao n):=aik.k TZp Tryz.f83 n (dr:=LV) (hT:=λm hm=>⟨.nil,iQ m ((H.d hm).s),(LW m ((H.d hm).s)),(.cc (VN m (H.d hm)) (.cc (VM m (H.d hm)) .nil)),.nil⟩)
def oH (n:Nat)(H:Hy ao n):aH TZp (Zm (n+1)):=bf Tryz.f83 (dr:=LV) (hT:=⟨.nil,iQ n (H.s),(LW n (H.s)),(.cc (VO n H) .nil),.nil⟩)
def Fp (n:Nat)(H:ao n):qU TZp (aiz n):=.cons (di (.cons (oT [aG,aG] (H).2.2.1) .nil)) (.cons (di (.cons (oT [aG,aG] (H).2.2.1) .nil)) (.cons (di (.cons (oT [aG,aG] (H).2.2.1) .nil)) (.cons (di (.cons (oT [aG,aG] (H).2.2.1) .nil)) .nil)))
def VR (n:Nat)(H:Hy ao n):=air.k TZp Tryz.f84 n (dr:=Fo) (hT:=λm hm=>⟨.nil,iQ m ((H.d hm).s),(Fp m ((H.d hm).s)),.nil,.nil⟩)
def VS (n:Nat)(H:Hy ao n):=aiq.k TZp Tryz.f84 n (dr:=Fo) (hT:=λm hm=>⟨.nil,iQ m ((H.d hm).s),(Fp m ((H.d hm).s)),.nil,.nil⟩)
def VT (n:Nat)(H:Hy ao n):=aip.k TZp Tryz.f84 n (dr:=Fo) (hT:=λm hm=>⟨.nil,iQ m ((H.d hm).s),(Fp m ((H.d hm).s)),(.cc (VS m (H.d hm)) (.cc (VR m (H.d hm)) .nil)),.nil⟩)
def VU (n:Nat)(H:Hy ao n):=aio.k TZp Tryz.f84 n (dr:=Fo) (hT:=λm hm=>⟨.nil,iQ m ((H.d hm).s),(Fp m ((H.d hm).s)),.nil,.nil⟩)
def VV (n:Nat)(H:Hy ao n):=ain.k TZp Tryz.f84 n (dr:=Fo) (hT:=λm hm=>⟨.nil,iQ m ((H.d hm).s),(Fp m ((H.d hm).s)),.nil,.nil⟩)
def qE (n:Nat)(H:Hy ao n):aH TZp (Zn (n+1)):=bf Tryz.f84 (dr:=Fo) (hT:=⟨.nil,iQ n (H.s),(Fp n (H.s)),(.cc (VV n H) (.cc (VU n H) (.cc (VT n H) .nil))),.nil⟩)
def SB (n:Nat)(H:ao n):qU TZp (ac4 n):=.cons (di (.cons (oT [aG,aG] (H).2.2.1) .nil)) (.cons (di (.cons (oT [aG,aG] (H).2.2.1) .nil)) .nil)
def QZ (n:Nat)(H:Hy ao n):=ac3.k TZp Tryz.f111 n (dr:=SA) (jt:=QX) (hT:=λm hm=>⟨.nil,iQ m ((H.d hm).s),(SB m ((H.d hm).s)),.nil,(.cc .nil)⟩)
def rn (n:Nat)(H:Hy ao n):aH TZp (QR (n+1)):=bf Tryz.f111 (dr:=SA) (hT:=⟨.nil,iQ n (H.s),(SB n (H.s)),(.cc (QZ n H) .nil),.nil⟩)
def oI (n:Nat)(H:Hy ao n):aH TZp (QS (n+1)):=bf Tryz.f114 (hT:=.m1 (iQ n (H.s)))
def sS (n:Nat)(H:Hy ao n):aH TZp (QT (n+1)):=bf Tryz.f115 (hT:=.m1 (iQ n (H.s)))
def ac7 (n:Nat)(H:ao n):qU TZp (ac5 n):=.cons (di (.cons (oT [aG,aG] (H).2.2.1) .nil)) .nil
def sT (n:Nat)(H:Hy ao n):aH TZp (QU (n+1)):=bf Tryz.f141 (dr:=ac6) (hT:=⟨.nil,iQ n (H.s),(ac7 n (H.s)),.nil,.nil⟩)
def w6 (n:Nat):ao n:=Oc (Q:=ao) ⟨gM Tryz.f36,gM Tryz.f50,gM Tryz.f51,gM Tryz.f52,gM Tryz.f64,gM Tryz.f66,gM Tryz.f77,gM Tryz.f78,gM Tryz.f80,gM Tryz.f82,gM Tryz.f83,gM Tryz.f84,gM Tryz.f111,gM Tryz.f114,gM Tryz.f115,gM Tryz.f141⟩ (λk h=>⟨vJ k h,tj k h,uN k h,Aj k h,rI k h,A8 k h,oR k h,rm k h,pZ k h,lX k h,oH k h,qE k h,rn k h,oI k h,sS k h,sT k h⟩) n
def K13 (n:Nat):eY TZp (C13 n):=iQ n (w6 n)
abbrev C14 (n:Nat):List dV:=afP n::C13 n
def K14 (n:Nat):eY TZp (C14 n):=.cons (JF n) (K13 n)
def tZ:uI (Addr->Sl->Sl->Int->Int->M (Unit⊕Int)):=λG n a0 a1 a2 a3 a4=>if decide (a4<a3) then iX a2 a4 1 λx0=>eB x0 λx1=>if x1 then iX a1 a4 1 λx2=>eI x2 λx3=>if !decide (x3=1) then AI (Sum.inr 3) else G a0 a1 a2 a3 (i64.wrap (a4+1)) else G a0 a1 a2 a3 (i64.wrap (a4+1)) else AI (Sum.inl ())
def pA:=lp tZ
theorem Cc (n:Nat):pA (n+1)=tZ (pA n) n:=rfl
def ua:uI (Addr->Sl->Sl->Int->Int->M (Unit⊕Int)):=λG n a0 a1 a2 a3 a4=>if decide (a4<a3) then iX a2 a4 5 λx0=>nL x0 λx1=>nW ar [vi 0,.string (ofBytes []),.bool false,aI,aI] λx2=>sN (ak x2) [vi x1.1,.string x1.2.1,.bool x1.2.2.1,aC x1.2.2.2.1,aC x1.2.2.2.2] λx3=>iX a1 a4 1 λx4=>eB x4 λx5=>if !x5 then AI (Sum.inr 3) else nL (ak x2) λx6=>sh (zm n (x6.1,x6.2.1,x6.2.2.1,x6.2.2.2.1,x6.2.2.2.2)) λx7=>if !x7 then AI (Sum.inr 3) else G a0 a1 a2 a3 (i64.wrap (a4+1)) else AI (Sum.inl ())
def pB:=lp ua
theorem Cd (n:Nat):pB (n+1)=ua (pB n) n:=rfl
def wK (n:Nat)(a0:Addr):M Int:=lS a0 0 λx0=>sh (Ap none xH [.bool false] (↑x0.len:Int) (↑x0.len:Int)) λx1=>gL a0 λx2=>lI a0 1 λx3=>sh (ov n (x2.1,x2.2) x3 x1) λx4=>lS a0 0 λx5=>sh (pB n a0 x1 x5 (↑x5.len:Int) 0) (dU (λx6=>gL a0 λx7=>sh (vE n (x7.1,x7.2)) λx8=>gL a0 λx9=>sh (vF n (x9.1,x9.2)) λx10=>sh (pA n a0 x8 x10 (↑x10.len:Int) 0) (dU (λx11=>gL a0 λx12=>sh (xm n (x12.1,x12.2)) λx13=>if x13 then AI 8 else gL a0 λkH=>sh (uL n (kH.1,kH.2)) λx15=>if decide (32<x15.1) then AI 5 else AI 0) (λx11=>AI x11))) (λx6=>AI x6))
def iE (n:Nat)(a0:Sl×Int):M Int:=nW ah [aC a0.1,vi a0.2] λx0=>lS (ak x0) 0 λx1=>if decide (4096<(↑x1.len:Int)) then AI 7 else lS (ak x0) 0 λx2=>if decide ((↑x2.len:Int)=0) then AI 3 else gL (ak x0) λx3=>sh (uv n (x3.1,x3.2)) λx4=>if !x4 then AI 3 else wK n (ak x0)
abbrev afQ (n:Nat):dV:=eN 16 [.agg [.sl,.int .i64]] [az] (iE n)
abbrev aiA:=L2 (bL 351) [(1,aG),(3,cp),(34,cp),(35,az),(36,az)] [] [(2,az)] ([2,4,5]++rG 36 16) 0 .ret pB
abbrev aiB:=L2 (bL 1407) [(1,aG),(6,cp),(55,cp),(56,az),(57,az)] [] [(2,az)] ([2,7,8]++rG 57 14) 2 .ret pA
abbrev aiC (n:Nat):List (iU Int):=[jN [0,1,1,1] [.code [1,1,1,1]] [(1,aG)] (wK n)]
def VW (n:Nat):=aiB.k TZp Tryz.f16 n (hT:=λm _=>.m1 (K14 m))
def VX (n:Nat):=aiA.k TZp Tryz.f16 n (hT:=λm _=>.m1 (K14 m))
def A9 (n:Nat):aH TZp (afQ n):=bf Tryz.f16 (js:=aiC n) (hT:=⟨.nil,K14 n,.nil,(.cc (VX n) (.cc (VW n) .nil)),(.cc .nil)⟩)
structure aO where
 jn:Addr->Addr->Int->θ->Addr->Sl->Int->Int->M Unit
 mL:Int->Addr->Addr->Addr->Addr->Addr->Addr->M Int
def jf (G:aO)(n:Nat)(x:ο)(a0:Int):M Int:=if rN pM x then sh (qq [aG,aG,aG,aG,aG,aG] x) λ(c:Addr×Addr×Addr×Addr×Addr×Addr)=>G.mL a0 c.1 c.2.1 c.2.2.1 c.2.2.2.1 c.2.2.2.2.1 c.2.2.2.2.2 else AS
abbrev uO:=jf
def im (G:aO)(n:Nat)(a0 a1:Addr)(a2:Int)(a3:θ)(a4:Addr)(a5:Int)(a6:Sl)(a7 a8:Int):M Unit:=sh (nn a3) λx0=>lS a4 4 λx1=>sh (eU .raw a0) λ(x2:ο)=>lS x0 4 λx3=>iX x3 a5 1 λx4=>eI x4 λx5=>sh (uC [some (a4.plus 4)] (uO G n x2 x5)) λx6=>sh (app true x1 1 av 1 [vi x6]) λx7=>sN (a4.plus 4) [aC x7] λx8=>G.jn a0 a1 a2 a3 a4 a6 a7 (i64.wrap (a8+1))
def ql (G:aO)(n:Nat)(a0 a1:Addr)(a2:Int)(a3:θ)(a4:Addr)(a5:Sl)(a6 a7:Int):M Unit:=if decide (a7<a6) then iX a5 a7 1 λx0=>eI x0 λx1=>sh (nn a3) λx2=>lI x2 0 λx3=>if decide (x3=10) then sh (nn a3) λx4=>lS a4 3 λx5=>sh (eU .raw a0) λ(x6:ο)=>lS x4 3 λx7=>iX x7 x1 1 λx8=>eI x8 λx9=>sh (uC [some (a4.plus 3)] (jf G n x6 x9)) λx10=>sh (app true x5 1 av 1 [vi x10]) λx11=>sN (a4.plus 3) [aC x11] λx12=>im G n a0 a1 a2 a3 a4 x1 a5 a6 a7 else im G n a0 a1 a2 a3 a4 x1 a5 a6 a7 else AI ()
def ud (G:aO)(n:Nat)(a0:Int)(a1 a2 a3 a4 a5 a6:Addr):M Int:=eS a1 λx0=>iX x0 a0 1 λx1=>eI x1 λx2=>if decide (0<=x2) then eS a1 λx3=>iX x3 a0 1 λx4=>eI x4 λx5=>AI x5 else eI a2 λx3=>eS a1 λx4=>iX x4 a0 1 λx5=>sN x5 [vi x3] λx6=>eI a2 λx7=>sN a2 [vi (i64.wrap (x7+1))] λx8=>lS a3 0 λx9=>iX x9 a0 5 λx10=>sh (eA 15) λx11=>sh (nn (some x10)) λx12=>sh (nn (some x10)) λx13=>sh (nn (some x10)) λkH=>lI x12 0 λx15=>lT x13 1 λrJ=>lB kH 2 λx17=>sh (iB (some (x11+13)) ar [vi 0,.string (ofBytes []),.bool false,aI,aI]) λxa=>sN (ak xa) [vi x15,.string rJ,.bool x17,aI,aI] λx19=>sh (eU .ptr a4) λ(x20:θ)=>sh (eC n x20 a0) λx21=>sh (G.jn a5 a6 x3 (some x10) (ak xa) x21 (↑x21.len:Int) 0) λx22=>lS a6 0 λx23=>nL (ak xa) λx24=>iX x23 x3 5 λx25=>sN x25 [vi x24.1,.string x24.2.1,.bool x24.2.2.1,aC x24.2.2.2.1,aC x24.2.2.2.2] λx26=>AI x3
def aO.at:Nat->aO|0=>⟨λ_ _ _ _ _ _ _ _=>AS,λ_ _ _ _ _ _ _=>AS⟩|n+1=>⟨ql (aO.at n) n,ud (aO.at n) n⟩
def jn (n:Nat):=(aO.at n).jn
def mL (n:Nat):=(aO.at n).mL
def Dm (n:Nat):=jf (aO.at n) n
def Dn (n:Nat):=uO (aO.at n) n
def Ba (n:Nat):=im (aO.at n) n
abbrev SD (n:Nat):dV:=eN 35 [az,aG,aG,aG,aG,aG,aG] [az] (mL n)
abbrev aiD:=L1 (bL 1407) [(5,aG),(6,aG),(9,az),(10,vW),(11,aG),(49,cp),(50,az),(51,az)] [] ([13]++rG 51 38) 0 jn
abbrev C15 (n:Nat):List dV:=SD n::C14 n
abbrev aiE (n:Nat):List rF:=[dN 62 [az] [az] (Dm n), dN 76 [az] [az] (Dn n)]
def Zr:=dR [(7,[0,1,2,4,5,6,8,9,10,3,7,11,12,13,14]),(12,[0,3,4,5,7,1,2,6,8,9,2010,11,12,13,14]),(13,[0,3,4,5,7,1,2,6,8,9,2010,11,12,13,14])]
abbrev VY (n:Nat):List (iU Unit):=[jN (bL 235903) [.au 1,.code (bL 31103)] [(5,aG),(6,aG),(9,az),(10,vW),(11,aG),(13,az),(49,cp),(50,az),(51,az)] (Ba n)]
def jY (n:Nat):Prop:=aH TZp (SD n)
def Zs (n:Nat)(H:jY n):eY TZp (C15 n):=.cons H (K14 n)
def Zt (n:Nat)(H:jY n):qU TZp (aiE n):=.cons (di (.cons (oT [aG,aG,aG,aG,aG,aG] (H)) .nil)) (.cons (di (.cons (oT [aG,aG,aG,aG,aG,aG] (H)) .nil)) .nil)
def VZ (n:Nat)(H:Hy jY n):=aiD.k TZp Tryz.f35 n (dr:=Zr) (jt:=VY) (hT:=λm hm=>⟨.nil,Zs m ((H.d hm).s),(Zt m ((H.d hm).s)),.nil,(.cc .nil)⟩)
def zq (n:Nat)(H:Hy jY n):aH TZp (SD (n+1)):=bf Tryz.f35 (dr:=Zr) (hT:=⟨.nil,Zs n (H.s),(Zt n (H.s)),(.cc (VZ n H) .nil),.nil⟩)
def uP (n:Nat):jY n:=Oc (Q:=jY) (gM Tryz.f35) zq n
def Eg (n:Nat):aH TZp (SD n):=(uP n)
def K15 (n:Nat):eY TZp (C15 n):=Zs n (uP n)
structure aN where
 fk:θ->θ->θ->ζ->Sl->Int->Int->M Unit
 fQ:θ->θ->Int->M Unit
def fJ (G:aN)(n:Nat)(a0 a1 a2:θ)(a3:ζ)(a4:Int)(a5:Sl)(a6 a7:Int):M Unit:=sh (nn a2) λx0=>lS x0 4 λx1=>iX x1 a4 1 λx2=>eI x2 λx3=>sh (G.fQ a0 a1 x3) λx4=>G.fk a0 a1 a2 a3 a5 a6 (i64.wrap (a7+1))
def fK (G:aN)(n:Nat)(a0 a1 a2:θ)(a3:ζ)(a4:Int)(a5:Sl)(a6 a7:Int):M Unit:=sh (nn a2) λx0=>lI x0 0 λx1=>if decide (x1=10) then sh (nn a2) λx2=>lS x2 3 λx3=>iX x3 a4 1 λx4=>eI x4 λx5=>sh (G.fQ a0 a1 x5) λx6=>sh (aD n a1 61) λx7=>fJ G n a0 a1 a2 a3 a4 a5 a6 a7 else fJ G n a0 a1 a2 a3 a4 a5 a6 a7
def nK (G:aN)(n:Nat)(a0 a1 a2:θ)(a3:ζ)(a4:Sl)(a5 a6:Int):M Unit:=if decide (a6<a5) then iX a4 a6 1 λx0=>eI x0 λx1=>if decide (0<a6) then sh (aD n a1 44) λx2=>fK G n a0 a1 a2 a3 x1 a4 a5 a6 else fK G n a0 a1 a2 a3 x1 a4 a5 a6 else AI ()
def fG (G:aN)(n:Nat)(a0 a1:θ)(a2:Int)(a3:θ)(a4:ζ):M Unit:=sh (kE a4 0) λx0=>sh (aD n a1 (↑x0.toNat:Int)) λx1=>sh (eC n a0 a2) λx2=>sh (G.fk a0 a1 a3 a4 x2 (↑x2.len:Int) 0) λx3=>sh (kE a4 1) λx4=>sh (aD n a1 (↑x4.toNat:Int)) λx5=>AI ()
def qm (G:aN)(n:Nat)(a0 a1:θ)(a2:Int):M Unit:=sh (nn a0) λx0=>lS (x0.plus 0) 0 λx1=>iX x1 a2 5 λx2=>sh (nn (some x2)) λx3=>lI x3 0 λx4=>if decide (x4=11) then sh (nn (some x2)) λx5=>lT x5 1 λx6=>sh (kK (ofBytes [33]) x6) λx7=>sh (kK x7 (ofBytes [40])) λx8=>sh (eL n a1 x8) λx9=>sh (nn (some x2)) λx10=>lS x10 4 λx11=>iX x11 0 1 λx12=>eI x12 λx13=>sh (G.fQ a0 a1 x13) λkH=>sh (aD n a1 41) λx15=>AI () else sh (nn (some x2)) λx5=>lI x5 0 λx6=>if decide (x6<9) then sh (wH n (some x2)) λx7=>sh (eL n a1 x7) λx8=>AI () else sh (nn (some x2)) λx7=>lI x7 0 λx8=>if decide (x8=10) then sh (nn (some x2)) λx9=>lB x9 2 λx10=>if x10 then fG G n a0 a1 a2 (some x2) (ofBytes [60,62]) else fG G n a0 a1 a2 (some x2) (ofBytes [123,125]) else fG G n a0 a1 a2 (some x2) (ofBytes [91,93])
def aN.at:Nat->aN|0=>⟨λ_ _ _ _ _ _ _=>AS,λ_ _ _=>AS⟩|n+1=>⟨nK (aN.at n) n,qm (aN.at n) n⟩
def fk (n:Nat):=(aN.at n).fk
def fQ (n:Nat):=(aN.at n).fQ
def yq (n:Nat):=fK (aN.at n) n
def yr (n:Nat):=fJ (aN.at n) n
def Bb (n:Nat):=fG (aN.at n) n
abbrev Zu (n:Nat):dV:=eN 25 [vW,vW,az] [] (fQ n)
abbrev aiF:=L1 (bL 351) [(0,vW),(1,vW),(6,vW),(7,qe),(67,cp),(68,az),(69,az)] [] ([8,9]++rG 69 37) 1 fk
abbrev C16 (n:Nat):List dV:=Zu n::C15 n
abbrev V0 (n:Nat):List (iU Unit):=[jN (bL 157279) [.code (bL 222815),.code (bL 124511),.au 2,.code (bL 7775)] [(0,vW),(1,vW),(6,vW),(7,qe),(9,az),(67,cp),(68,az),(69,az)] (yq n), jN (bL 124511) [.au 2,.code (bL 7775)] [(0,vW),(1,vW),(6,vW),(7,qe),(9,az),(67,cp),(68,az),(69,az)] (yr n)]
abbrev aiG (n:Nat):List (iU Unit):=[jN [0,1,1,1,1] [.code [1,1,1,1,1]] [(0,vW),(1,vW),(2,az),(6,vW),(7,qe)] (Bb n)]
def jL (n:Nat):Prop:=aH TZp (Zu n)
def Zv (n:Nat)(H:jL n):eY TZp (C16 n):=.cons H (K15 n)
def V1 (n:Nat)(H:Hy jL n):=aiF.k TZp Tryz.f25 n (jt:=V0) (hT:=λm hm=>.m3 (Zv m ((H.d hm).s)) (.cc (.cc .nil)))
def w7 (n:Nat)(H:Hy jL n):aH TZp (Zu (n+1)):=bf Tryz.f25 (js:=aiG n) (hT:=⟨.nil,Zv n (H.s),.nil,(.cc (V1 n H) .nil),(.cc .nil)⟩)
def yu (n:Nat):jL n:=Oc (Q:=jL) (gM Tryz.f25) w7 n
def K16 (n:Nat):eY TZp (C16 n):=Zv n (yu n)
def ue (n:Nat)(x:ο)(a0:Int):M Int:=if rN pM x then sh (qq [aG,aG,aG,aG,aG,aG] x) λ(c:Addr×Addr×Addr×Addr×Addr×Addr)=>mL n a0 c.1 c.2.1 c.2.2.1 c.2.2.2.1 c.2.2.2.2.1 c.2.2.2.2.2 else AS
def sU:uI (Addr->Addr->Addr->Addr->Int->Int->M Unit):=λG n a0 a1 a2 a3 a4 a5=>if decide (a5<a4) then eS a3 λx0=>iX x0 a5 1 λx1=>sN x1 [vi (-1)] λx2=>G a0 a1 a2 a3 a4 (i64.wrap (a5+1)) else AI ()
def oh:=lp sU
theorem Bc (n:Nat):oh (n+1)=sU (oh n) n:=rfl
def p7 (n:Nat)(a0:Sl×Int):M (Sl×Int):=nW ah [aC a0.1,vi a0.2] λx0=>nW ah [aI,vi 0] λx1=>gL (ak x0) λx2=>sh (AW n (x2.1,x2.2)) λx3=>nW bz [.pointer none] λx4=>sN (ak x4) [.pointer x3] λx5=>lS (ak x0) 0 λx6=>sh (Ap none av [vi 0] (↑x6.len:Int) (↑x6.len:Int)) λx7=>nW aJ [aI] λx8=>sN (ak x8) [aC x7] λx9=>sh (eU .sl (ak x8)) λ(x10:Sl)=>sh (oh n (ak x0) (ak x1) (ak x4) (ak x8) (↑x10.len:Int) 0) λx11=>lS (ak x0) 0 λx12=>sh (Ap none ar [vi 0,.string (ofBytes []),.bool false,aI,aI] (↑x12.len:Int) (↑x12.len:Int)) λx13=>nW ah [aI,vi 0] λkH=>sN (ak kH) [aC x13,vi 0] λx15=>nW av [vi 0] λrJ=>sN (ak rJ) [vi 0] λx17=>nW qt [Value.nilFunc] λxa=>sN (ak xa) [.func (Fn.func pM) #[] #[.pointer (some (ak x8)),.pointer (some (ak rJ)),.pointer (some (ak x0)),.pointer (some (ak x4)),.pointer (some (ak xa)),.pointer (some (ak kH))]] λx19=>sh (eU .raw (ak xa)) λ(x20:ο)=>lI (ak x0) 1 λx21=>sh (ue n x20 x21) λx22=>gL (ak kH) λx23=>sN (ak x1) [aC x23.1,vi x23.2] λx24=>gL (ak x1) λx25=>AI (x25.1,x25.2)
abbrev afR (n:Nat):dV:=eN 17 [.agg [.sl,.int .i64]] [.agg [.sl,.int .i64]] (p7 n)
abbrev aiH:=L1 (bL 87) [(1,aG),(2,aG),(3,aG),(4,aG),(16,az),(17,az)] [] ([5]++rG 17 7) 0 oh
abbrev aiI (n:Nat):List rF:=[dN 30 [az] [az] (ue n)]
def Zw (n:Nat):qU TZp (aiI n):=.cons (di (.cons (oT [aG,aG,aG,aG,aG,aG] (Eg n)) .nil)) .nil
def V2 (n:Nat):=aiH.k TZp Tryz.f17 n (hT:=λm _=>⟨.nil,K16 m,(Zw m),.nil,.nil⟩)
def GD (n:Nat):aH TZp (afR n):=bf Tryz.f17 (hT:=⟨.nil,K16 n,(Zw n),(.cc (V2 n) .nil),.nil⟩)
abbrev C17 (n:Nat):List dV:=afQ n::afR n::C16 n
def K17 (n:Nat):eY TZp (C17 n):=.cons (A9 n) (.cons (GD n) (K16 n))
def xr (n:Nat)(a0:Sl×Int):M (Int×Bool):=nW ah [aC a0.1,vi a0.2] λx0=>gL (ak x0) λx1=>sh (iE n (x1.1,x1.2)) λx2=>if !decide (x2=0) then AI (0,false) else gL (ak x0) λx3=>sh (uL n (x3.1,x3.2)) λx4=>AI (x4.1,x4.2)
abbrev afS (n:Nat):dV:=eN 40 [.agg [.sl,.int .i64]] [az,jE] (xr n)
def Il (n:Nat):aH TZp (afS n):=bf Tryz.f40 (hT:=.m1 (K17 n))
def kW (n:Nat)(a0:Sl×Int)(a1:Int):M ((Sl×Int)×Int):=nW ah [aC a0.1,vi a0.2] λx0=>nW ah [aI,vi 0] λx1=>gL (ak x0) λx2=>sh (iE n (x2.1,x2.2)) λx3=>if !decide (x3=0) then sN (ak x1) [aI,vi 0] λx4=>gL (ak x1) λx5=>AI ((x5.1,x5.2),3) else if decide (a1<0) then sN (ak x1) [aI,vi 0] λx4=>gL (ak x1) λx5=>AI ((x5.1,x5.2),2) else lS (ak x0) 0 λx4=>if decide ((↑x4.len:Int)<=a1) then sN (ak x1) [aI,vi 0] λx5=>gL (ak x1) λx6=>AI ((x6.1,x6.2),2) else lS (ak x0) 0 λx5=>sh (zk n (x5,a1)) λx6=>sN (ak x1) [aC x6.1,vi x6.2] λx7=>gL (ak x1) λx8=>AI ((x8.1,x8.2),0)
abbrev afT (n:Nat):dV:=eN 13 [.agg [.sl,.int .i64],az] [.agg [.sl,.int .i64],az] (kW n)
def Eh (n:Nat):aH TZp (afT n):=bf Tryz.f13 (hT:=.m1 (K17 n))
def kA (n:Nat)(a0 a1:Sl×Int):M Bool:=nW ah [aC a0.1,vi a0.2] λx0=>nW ah [aC a1.1,vi a1.2] λx1=>gL (ak x0) λx2=>sh (iE n (x2.1,x2.2)) λx3=>if decide (x3=0) then gL (ak x1) λx4=>sh (iE n (x4.1,x4.2)) λx5=>AI (decide (x5=0)) else AI false
abbrev amO (n:Nat):dV:=eN 7 [.agg [.sl,.int .i64],.agg [.sl,.int .i64]] [jE] (kA n)
def Ak (n:Nat):aH TZp (amO n):=bf Tryz.f7 (hT:=.m1 (K17 n))
def sV (n:Nat)(a0:Sl×Int):M ((Sl×Int)×Int):=nW ah [aC a0.1,vi a0.2] λx0=>nW ah [aI,vi 0] λx1=>gL (ak x0) λx2=>sh (iE n (x2.1,x2.2)) λx3=>if !decide (x3=0) then sN (ak x1) [aI,vi 0] λx4=>gL (ak x1) λx5=>AI ((x5.1,x5.2),3) else gL (ak x0) λx4=>sh (p7 n (x4.1,x4.2)) λx5=>sN (ak x1) [aC x5.1,vi x5.2] λx6=>gL (ak x1) λx7=>AI ((x7.1,x7.2),0)
abbrev afU (n:Nat):dV:=eN 37 [.agg [.sl,.int .i64]] [.agg [.sl,.int .i64],az] (sV n)
def GF (n:Nat):aH TZp (afU n):=bf Tryz.f37 (hT:=.m1 (K17 n))
abbrev C18 (n:Nat):List dV:=afS n::afT n::afU n::C17 n
def K18 (n:Nat):eY TZp (C18 n):=.cons (Il n) (.cons (Eh n) (.cons (GF n) (K17 n)))
def uB (n:Nat)(a0:Sl×Int):M Int:=nW ah [aC a0.1,vi a0.2] λx0=>gL (ak x0) λx1=>sh (iE n (x1.1,x1.2)) λx2=>if !decide (x2=0) then AI 3 else gL (ak x0) λx3=>sh (xr n (x3.1,x3.2)) λx4=>if !x4.2 then AI 14 else AI 0
abbrev afV (n:Nat):dV:=eN 22 [.agg [.sl,.int .i64]] [az] (uB n)
def Fq (n:Nat):aH TZp (afV n):=bf Tryz.f22 (hT:=.m1 (K18 n))
def Cs (n:Nat)(a0 a1:Addr):M Bool:=sh (eA 8) λx0=>gL a0 λx1=>gL a1 λx2=>sh (uC [some a1] (p7 n (x1.1,x1.2))) λx3=>sh (p7 n (x2.1,x2.2)) λx4=>sh (iB (some (x0+4)) ah [aI,vi 0]) λx5=>sh (iB (some (x0+5)) ah [aI,vi 0]) λx6=>sN (ak x5) [aC x3.1,vi x3.2] λx7=>sN (ak x6) [aC x4.1,vi x4.2] λx8=>lS (ak x5) 0 λx9=>lS (ak x6) 0 λx10=>sh (eM n x9 x10 (Value.func (Fn.func AF) #[] #[])) λx11=>AI x11
def Im (n:Nat)(a0 a1:Sl×Int):M Bool:=nW ah [aC a0.1,vi a0.2] λx0=>nW ah [aC a1.1,vi a1.2] λx1=>lS (ak x0) 0 λx2=>lS (ak x1) 0 λx3=>if !decide ((↑x2.len:Int)=(↑x3.len:Int)) then AI false else gL (ak x0) λx4=>sh (iE n (x4.1,x4.2)) λx5=>if !decide (x5=0) then AI false else gL (ak x1) λx6=>sh (iE n (x6.1,x6.2)) λx7=>if !decide (x7=0) then AI false else Cs n (ak x0) (ak x1)
abbrev amQ (n:Nat):dV:=eN 8 [.agg [.sl,.int .i64],.agg [.sl,.int .i64]] [jE] (Im n)
def ala:=dR [(3,[0,2,3001]++rG 3 5)]
abbrev alb (n:Nat):List (iU Bool):=[jN [0,1,1] [.code [1,1,1]] [(2,aG),(3,aG)] (Cs n)]
def JG (n:Nat):aH TZp (amQ n):=bf Tryz.f8 (dr:=ala) (js:=alb n) (hT:=.m3 (K18 n) (.cc .nil))
abbrev C19 (n:Nat):List dV:=afV n::C18 n
def K19 (n:Nat):eY TZp (C19 n):=.cons (Fq n) (K18 n)
def wL:uI (Addr->θ->Sl->Int->Int->M Unit):=λG n a0 a1 a2 a3 a4=>if decide (a4<a3) then iX a2 a4 1 λx0=>sN x0 [vi (-1)] λx1=>G a0 a1 a2 a3 (i64.wrap (a4+1)) else AI ()
def sW:=lp wL
theorem Ei (n:Nat):sW (n+1)=wL (sW n) n:=rfl
def p8 (n:Nat)(a0:Sl×Int):M (ζ×Int):=nW ah [aC a0.1,vi a0.2] λx0=>gL (ak x0) λx1=>sh (uB n (x1.1,x1.2)) λx2=>if !decide (x2=0) then AI ((ofBytes []),x2) else gL (ak x0) λx3=>sh (AW n (x3.1,x3.2)) λx4=>lS (ak x0) 0 λx5=>sh (Ap none av [vi 0] (↑x5.len:Int) (↑x5.len:Int)) λx6=>sh (sW n (ak x0) x4 x6 (↑x6.len:Int) 0) λx7=>lI (ak x0) 1 λx8=>sh (fh n x4 x8 x6) λx9=>if decide (65536<x9) then AI ((ofBytes []),6) else nW fO [.pointer none,aI] λx10=>lI (ak x0) 1 λx11=>sh (fQ n x4 (some (ak x10)) x11) λx12=>sh (ic n (some (ak x10))) λx13=>AI (x13,0)
abbrev afW (n:Nat):dV:=eN 10 [.agg [.sl,.int .i64]] [qe,az] (p8 n)
abbrev aiJ:=L1 (bL 175) [(1,aG),(5,vW),(6,cp),(21,az),(22,az)] [] ([7]++rG 22 7) 0 sW
def V3 (n:Nat):=aiJ.k TZp Tryz.f10 n (hT:=λm _=>.m1 (K19 m))
def Ej (n:Nat):aH TZp (afW n):=bf Tryz.f10 (hT:=.m2 (K19 n) (.cc (V3 n) .nil))
abbrev C20 (n:Nat):List dV:=afW n::C19 n
def K20 (n:Nat):eY TZp (C20 n):=.cons (Ej n) (K19 n)
def vg:uI (Addr->Sl->Sl->Int->Int->M Sl):=λG n a0 a1 a2 a3 a4=>if decide (a4<a3) then iX a2 a4 1 λx0=>eI x0 λx1=>gL a0 λx2=>sh (kW n (x2.1,x2.2) x1) λx3=>nW ah [aI,vi 0] λx4=>sN (ak x4) [aC x3.1.1,vi x3.1.2] λx5=>gL (ak x4) λx6=>sh (p8 n (x6.1,x6.2)) λx7=>sh (app false a1 1 ep 1 [.string x7.1]) λx8=>G a0 x8 a2 a3 (i64.wrap (a4+1)) else AI a1
def qF:=lp vg
theorem Dp (n:Nat):qF (n+1)=vg (qF n) n:=rfl
def wM (n:Nat)(a0:Sl×Int)(a1:Int×ζ×Bool×Sl×Sl):M Sl:=nW ah [aC a0.1,vi a0.2] λx0=>nW ar [vi a1.1,.string a1.2.1,.bool a1.2.2.1,aC a1.2.2.2.1,aC a1.2.2.2.2] λx1=>lS (ak x1) 3 λx2=>sh (qF n (ak x0) pH x2 (↑x2.len:Int) 0) λx3=>AI x3
abbrev afX (n:Nat):dV:=eN 53 [.agg [.sl,.int .i64],.agg [.int .i64,.str,.bool,.sl,.sl]] [cp] (wM n)
abbrev aiK:=L1 [0,1,0,1,1] [(2,aG),(5,cp),(13,cp),(14,az),(15,az)] [(5,cp)] ([5]++rG 7 5++rG 15 20) 0 qF
def V4 (n:Nat):=aiK.k TZp Tryz.f53 n (hT:=λm _=>.m1 (K20 m))
def JH (n:Nat):aH TZp (afX n):=bf Tryz.f53 (hT:=.m2 (K20 n) (.cc (V4 n) .nil))
def nM:uI (Sl->Addr->Int->Addr->Int->Int->M Int):=λG n a0 a1 a2 a3 a4 a5=>lS a3 3 λx0=>if decide (a5<(↑x0.len:Int)) then sh (eA 13) λx1=>gL a1 λx2=>lS a3 3 λx3=>iX x3 a5 1 λx4=>eI x4 λx5=>sh (kW n (x2.1,x2.2) x5) λx6=>sh (iB (some (x1+10)) ah [aI,vi 0]) λx7=>sN (ak x7) [aC x6.1.1,vi x6.1.2] λx8=>gL (ak x7) λx9=>sh (p8 n (x9.1,x9.2)) λx10=>if decide (x10.2=0) then iX a0 a2 2 λx11=>lT x11 1 λx12=>if mQ x10.1 x12 then G a0 a1 a2 a3 a5 (i64.wrap (a5+1)) else G a0 a1 a2 a3 a4 (i64.wrap (a5+1)) else G a0 a1 a2 a3 a4 (i64.wrap (a5+1)) else AI a4
def jg:=lp nM
theorem w8 (n:Nat):jg (n+1)=nM (jg n) n:=rfl
def nN:uI (Sl->Addr->Int->Int->M (Int⊕(Int×Bool))):=λG n a0 a1 a2 a3=>if decide (a3<(↑a0.len:Int)) then lS a1 0 λx0=>iX x0 a2 5 λx1=>nL x1 λx2=>nW ar [vi 0,.string (ofBytes []),.bool false,aI,aI] λx3=>sN (ak x3) [vi x2.1,.string x2.2.1,.bool x2.2.2.1,aC x2.2.2.2.1,aC x2.2.2.2.2] λx4=>iX a0 a3 2 λx5=>lI x5 0 λx6=>iX a0 a3 2 λx7=>lT x7 1 λx8=>if !mQ x8 (ofBytes []) then sh (jg n a0 a1 a3 (ak x3) (-1) 0) λx9=>if decide (x9<0) then AI (Sum.inr (0,false)) else lS (ak x3) 4 λx10=>if decide ((↑x10.len:Int)<=x9) then AI (Sum.inr (0,false)) else lS (ak x3) 4 λx11=>iX x11 x9 1 λx12=>eI x12 λx13=>G a0 a1 x13 (i64.wrap (a3+1)) else if decide (x6<0) then AI (Sum.inr (0,false)) else lS (ak x3) 4 λx9=>if decide ((↑x9.len:Int)<=x6) then AI (Sum.inr (0,false)) else lS (ak x3) 4 λx10=>iX x10 x6 1 λx11=>eI x11 λx12=>G a0 a1 x12 (i64.wrap (a3+1)) else AI (Sum.inl a2)
def gJ:=lp nN
theorem w9 (n:Nat):gJ (n+1)=nN (gJ n) n:=rfl
def jo (n:Nat)(a0:Sl×Int)(a1:Sl):M (Int×Bool):=nW ah [aC a0.1,vi a0.2] λx0=>lI (ak x0) 1 λx1=>sh (gJ n a1 (ak x0) x1 0) (dU (λx2=>AI (x2,true)) (λx2=>AI (x2.1,x2.2)))
abbrev alc (n:Nat):dV:=eN 12 [.agg [.sl,.int .i64],cp] [az,jE] (jo n)
abbrev aiL:=L2 [0,1,0,1,1] [(1,cp),(2,aG),(6,az),(7,az)] [(6,az)] [(4,az),(5,jE)] (rG 4 11++rG 17 70) 0 .ret gJ
abbrev aiM:=L1 (bL 185931) [(1,cp),(2,aG),(7,az),(8,aG),(9,az),(10,az)] [(9,az)] (rG 9 6++rG 39 34) 2 jg
def Q0:=dR [(12,[1,3,0,2]++rG 4 9)]
def V5 (n:Nat):=aiM.k TZp Tryz.f12 n (dr:=Q0) (hT:=λm _=>.m1 (K20 m))
def V6 (n:Nat):=aiL.k TZp Tryz.f12 n (dr:=Q0) (hT:=λm _=>.m2 (K20 m) (.cc (V5 m) .nil))
def Be (n:Nat):aH TZp (alc n):=bf Tryz.f12 (dr:=Q0) (hT:=.m2 (K20 n) (.cc (V6 n) .nil))
abbrev C21 (n:Nat):List dV:=afX n::C20 n
def K21 (n:Nat):eY TZp (C21 n):=.cons (JH n) (K20 n)
def uf:uI (Sl->Sl->Int->Int->M (Unit⊕(Sl×Bool))):=λG n a0 a1 a2 a3=>if decide (a3<a2) then iX a0 a3 1 λx0=>iX a1 a3 1 λx1=>eT x0 λx2=>eT x1 λx3=>if !mQ x2 x3 then AI (Sum.inr (pH,false)) else G a0 a1 a2 (i64.wrap (a3+1)) else AI (Sum.inl ())
def pC:=lp uf
theorem Ce (n:Nat):pC (n+1)=uf (pC n) n:=rfl
def wN (n:Nat)(a0 a1 a2 a3:Addr):M (Sl×Bool):=gL a0 λx0=>nL a2 λx1=>gL a1 λx2=>nL a3 λx3=>sh (uC [some a1,some a3] (wM n (x0.1,x0.2) (x1.1,x1.2.1,x1.2.2.1,x1.2.2.2.1,x1.2.2.2.2))) λx4=>sh (wM n (x2.1,x2.2) (x3.1,x3.2.1,x3.2.2.1,x3.2.2.2.1,x3.2.2.2.2)) λx5=>sh (pC n x4 x5 (↑x4.len:Int) 0) (dU (λx6=>AI (x4,true)) (λx6=>AI (x6.1,x6.2)))
def xt (n:Nat)(a0 a1:Sl×Int)(a2:Int×Int):M (Sl×Bool):=nW ah [aC a0.1,vi a0.2] λx0=>nW ah [aC a1.1,vi a1.2] λx1=>nW cD [vi a2.1,vi a2.2] λx2=>sh (eA 16) λx3=>lS (ak x0) 0 λx4=>lI (ak x2) 0 λx5=>iX x4 x5 5 λx6=>nL x6 λx7=>lS (ak x1) 0 λx8=>lI (ak x2) 1 λx9=>iX x8 x9 5 λx10=>nL x10 λx11=>sh (iB (some (x3+12)) ar [vi 0,.string (ofBytes []),.bool false,aI,aI]) λx12=>sh (iB (some (x3+13)) ar [vi 0,.string (ofBytes []),.bool false,aI,aI]) λx13=>sh (uC [some ((ak x1).plus 0),some ((ak x2).plus 1),some x10] (rE (ak x12) [vi x7.1,.string x7.2.1,.bool x7.2.2.1,aC x7.2.2.2.1,aC x7.2.2.2.2])) λkH=>sN (ak x13) [vi x11.1,.string x11.2.1,.bool x11.2.2.1,aC x11.2.2.2.1,aC x11.2.2.2.2] λx15=>lI (ak x12) 0 λrJ=>lI (ak x13) 0 λx17=>if !decide (rJ=x17) then AI (pH,false) else lT (ak x12) 1 λxa=>lT (ak x13) 1 λx19=>if !mQ xa x19 then AI (pH,false) else lB (ak x12) 2 λx20=>lB (ak x13) 2 λx21=>if !x20==x21 then AI (pH,false) else lS (ak x12) 4 λx22=>lS (ak x13) 4 λx23=>if !decide ((↑x22.len:Int)=(↑x23.len:Int)) then AI (pH,false) else wN n (ak x0) (ak x1) (ak x12) (ak x13)
abbrev afY (n:Nat):dV:=eN 39 [.agg [.sl,.int .i64],.agg [.sl,.int .i64],.agg [.int .i64,.int .i64]] [cp,jE] (xt n)
abbrev aiN:=L2 (bL 175) [(10,cp),(11,cp),(60,az),(61,az)] [] [(6,cp),(7,jE)] ([6,7,12]++rG 61 13) 0 .ret pC
def Zx:=dR [(1,[0,2,6,8,1,3,4,5,7]++rG 9 5++[12010008014,15]),(4,[0,1,3,4,5004002,5,6,7]),(8,[0,1,2,4,5,6,3,7,8])]
abbrev aiO (n:Nat):List (iU (Sl×Bool)):=[jN [0,1,1,1] [.code [1,1,1,1]] [(3,aG),(4,aG),(8,aG),(9,aG)] (wN n)]
def V7 (n:Nat):=aiN.k TZp Tryz.f39 n (dr:=Zx) (hT:=λm _=>.m1 (K21 m))
def Io (n:Nat):aH TZp (afY n):=bf Tryz.f39 (dr:=Zx) (js:=aiO n) (hT:=⟨.nil,K21 n,.nil,(.cc (V7 n) .nil),(.cc .nil)⟩)
abbrev C22 (n:Nat):List dV:=afY n::C21 n
def K22 (n:Nat):eY TZp (C22 n):=.cons (Io n) (K21 n)
structure aV where
 jq:Sl->Addr->Addr->Addr->Sl->Sl->Int->Int->M (Unit⊕(Sl×Bool))
 mM:(Int×Int)->Sl->Addr->Addr->Addr->Addr->M (Sl×Bool)
def pD (G:aV)(n:Nat)(x:ο)(a0:Int×Int)(a1:Sl):M (Sl×Bool):=if rN pN x then sh (qq [aG,aG,aG,aG] x) λ(c:Addr×Addr×Addr×Addr)=>G.mM a0 a1 c.1 c.2.1 c.2.2.1 c.2.2.2 else AS
def iq (G:aV)(n:Nat)(a0:Sl)(a1 a2 a3:Addr)(a4:Sl)(a5 a6:Int)(a7:Addr)(a8:Sl)(a9 a10:Int):M (Unit⊕(Sl×Bool)):=sh (eU .raw a2) λ(x0:ο)=>lS a1 0 λx1=>lI a3 1 λx2=>iX x1 x2 5 λx3=>lS x3 4 λx4=>iX x4 a5 1 λx5=>eI x5 λx6=>sh (bK [li,.str] a7) λ(x7:Int×ζ)=>sh (uC [some a2,some (a1.plus 0),some (a3.plus 1),some (x3.plus 4),some x5] (app false a0 2 aE 1 [vi x7.1,.string x7.2])) λx8=>sh (pD G n x0 (a6,x6) x8) λx9=>if x9.2 then AI (Sum.inr (x9.1,true)) else G.jq a0 a1 a2 a3 a4 a8 a9 (i64.wrap (a10+1))
def qn (G:aV)(n:Nat)(a0:Sl)(a1 a2 a3:Addr)(a4 a5:Sl)(a6 a7:Int):M (Unit⊕(Sl×Bool)):=if decide (a7<a6) then iX a5 a7 1 λx0=>eI x0 λx1=>nW aE [vi 0,.string (ofBytes [])] λx2=>sN (ak x2) [vi a7,.string (ofBytes [])] λx3=>if decide (0<(↑a4.len:Int)) then iX a4 a7 1 λx4=>eT x4 λx5=>sN (ak x2) [vi 0,.string x5] λx6=>iq G n a0 a1 a2 a3 a4 a7 x1 (ak x2) a5 a6 a7 else iq G n a0 a1 a2 a3 a4 a7 x1 (ak x2) a5 a6 a7 else AI (Sum.inl ())
def ug (G:aV)(n:Nat)(a0:Int×Int)(a1:Sl)(a2 a3 a4 a5:Addr):M (Sl×Bool):=nW cD [vi a0.1,vi a0.2] λx0=>sh (eU .mp a2) λ(x1:ν)=>sh (bK [li,li] (ak x0)) λ(x2:Int×Int)=>sh (zJ cD (Ty.one .bool) false x1 (Value.agg #[vi x2.1,vi x2.2])) λ(x3:Bool×Bool)=>if x3.2 then AI (pH,false) else sh (eU .mp a2) λ(x4:ν)=>sh (bK [li,li] (ak x0)) λ(x5:Int×Int)=>sh (FM cD x4 (Value.agg #[vi x5.1,vi x5.2]) (Value.bool true)) λx6=>gL a3 λx7=>gL a4 λx8=>sh (bK [li,li] (ak x0)) λ(x9:Int×Int)=>sh (xt n (x7.1,x7.2) (x8.1,x8.2) (x9.1,x9.2)) λx10=>if !x10.2 then nW aE [] λx11=>sh (M5 a1 2) λx12=>sh (app false { a:=some (ak x11),len:=0,cap:=1 } 2 45 a1.len x12) λx13=>AI (x13,true) else lS a3 0 λx11=>lI (ak x0) 0 λx12=>iX x11 x12 5 λx13=>lS x13 4 λkH=>sh (G.jq a1 a4 a5 (ak x0) x10.1 kH (↑kH.len:Int) 0) (dU (λx15=>AI (pH,false)) (λx15=>AI (x15.1,x15.2)))
def aV.at:Nat->aV|0=>⟨λ_ _ _ _ _ _ _ _=>AS,λ_ _ _ _ _ _=>AS⟩|n+1=>⟨qn (aV.at n) n,ug (aV.at n) n⟩
def jq (n:Nat):=(aV.at n).jq
def mM (n:Nat):=(aV.at n).mM
def Dq (n:Nat):=pD (aV.at n) n
def Bf (n:Nat):=iq (aV.at n) n
abbrev SE (n:Nat):dV:=eN 38 [.agg [.int .i64,.int .i64],cp,aG,aG,aG,aG] [cp,jE] (mM n)
abbrev aiP:=L2 (bL 351) [(1,cp),(4,aG),(5,aG),(6,aG),(10,cp),(40,cp),(41,az),(42,az)] [] [(8,cp),(9,jE)] ([8,9]++rG 12 5++rG 42 39) 0 .ret jq
abbrev C23 (n:Nat):List dV:=SE n::C22 n
abbrev aiQ (n:Nat):List rF:=[dN 58 [.agg [.int .i64,.int .i64],cp] [cp,jE] (Dq n)]
def Zy:=dR [(13,[1,2,4,9,13,0,3,5,6,7,8,10,11,12,14,15,12009006004001016]++rG 17 6)]
abbrev V8 (n:Nat):List (iU (Unit⊕(Sl×Bool))):=[jN (bL 190047) [.code (bL 255583),.au 1,.code (bL 7775)] [(1,cp),(4,aG),(5,aG),(6,aG),(10,cp),(12,az),(13,az),(14,aG),(40,cp),(41,az),(42,az)] (Bf n)]
def jZ (n:Nat):Prop:=aH TZp (SE n)
def Zz (n:Nat)(H:jZ n):eY TZp (C23 n):=.cons H (K22 n)
def ZA (n:Nat)(H:jZ n):qU TZp (aiQ n):=.cons (di (.cons (oT [aG,aG,aG,aG] (H)) .nil)) .nil
def V9 (n:Nat)(H:Hy jZ n):=aiP.k TZp Tryz.f38 n (dr:=Zy) (jt:=V8) (hT:=λm hm=>⟨.nil,Zz m ((H.d hm).s),(ZA m ((H.d hm).s)),.nil,(.cc .nil)⟩)
def zr (n:Nat)(H:Hy jZ n):aH TZp (SE (n+1)):=bf Tryz.f38 (dr:=Zy) (hT:=⟨.nil,Zz n (H.s),(ZA n (H.s)),(.cc (V9 n H) .nil),.nil⟩)
def uQ (n:Nat):jZ n:=Oc (Q:=jZ) (gM Tryz.f38) zr n
def Ek (n:Nat):aH TZp (SE n):=(uQ n)
def K23 (n:Nat):eY TZp (C23 n):=Zz n (uQ n)
def uh (n:Nat)(x:ο)(a0:Int×Int)(a1:Sl):M (Sl×Bool):=if rN pN x then sh (qq [aG,aG,aG,aG] x) λ(c:Addr×Addr×Addr×Addr)=>mM n a0 a1 c.1 c.2.1 c.2.2.1 c.2.2.2 else AS
def qR (n:Nat)(a0 a1:Addr):M (Sl×Bool×Bool):=sh (DO cD) λx0=>nW oV [.map none] λx1=>sN (ak x1) [.map (some x0)] λx2=>nW eV [Value.nilFunc] λx3=>sN (ak x3) [.func (Fn.func pN) #[] #[.pointer (some (ak x1)),.pointer (some a0),.pointer (some a1),.pointer (some (ak x3))]] λx4=>sh (eU .raw (ak x3)) λ(x5:ο)=>lI a0 1 λx6=>lI a1 1 λx7=>sh (uh n x5 (x6,x7) pH) λx8=>AI (x8.1,x8.2,true)
def p9 (n:Nat)(a0 a1:Sl×Int):M (Sl×Bool×Bool):=nW ah [aC a0.1,vi a0.2] λx0=>nW ah [aC a1.1,vi a1.2] λx1=>gL (ak x0) λx2=>sh (sV n (x2.1,x2.2)) λx3=>nW ah [aI,vi 0] λx4=>sN (ak x4) [aC x3.1.1,vi x3.1.2] λx5=>gL (ak x1) λx6=>sh (sV n (x6.1,x6.2)) λx7=>nW ah [aI,vi 0] λx8=>sN (ak x8) [aC x7.1.1,vi x7.1.2] λx9=>if !decide (x3.2=0) then AI (pH,false,false) else if !decide (x7.2=0) then AI (pH,false,false) else qR n (ak x4) (ak x8)
abbrev afZ (n:Nat):dV:=eN 21 [.agg [.sl,.int .i64],.agg [.sl,.int .i64]] [cp,jE,jE] (p9 n)
abbrev aiR (n:Nat):List rF:=[dN 34 [.agg [.int .i64,.int .i64],cp] [cp,jE] (uh n)]
abbrev aiS (n:Nat):List (iU (Sl×Bool×Bool)):=[jN [0,1,1,1,1] [.code [1,1,1,1,1]] [(7,aG),(9,aG)] (qR n)]
def aiT (n:Nat):qU TZp (aiR n):=.cons (di (.cons (oT [aG,aG,aG,aG] (Ek n)) .nil)) .nil
def GG (n:Nat):aH TZp (afZ n):=bf Tryz.f21 (js:=aiS n) (hT:=⟨.nil,K23 n,(aiT n),.nil,(.cc .nil)⟩)
abbrev C24 (n:Nat):List dV:=afZ n::C23 n
def K24 (n:Nat):eY TZp (C24 n):=.cons (GG n) (K23 n)
def jV (n:Nat)(a0 a1:Sl×Int):M Bool:=nW ah [aC a0.1,vi a0.2] λx0=>nW ah [aC a1.1,vi a1.2] λx1=>gL (ak x0) λx2=>gL (ak x1) λx3=>sh (p9 n (x2.1,x2.2) (x3.1,x3.2)) λx4=>if x4.2.2 then AI !x4.2.1 else AI false
abbrev ald (n:Nat):dV:=eN 9 [.agg [.sl,.int .i64],.agg [.sl,.int .i64]] [jE] (jV n)
def Bg (n:Nat):aH TZp (ald n):=bf Tryz.f9 (hT:=.m1 (K24 n))
def pE (n:Nat)(a0 a1:Sl×Int):M (Sl×Bool):=nW ah [aC a0.1,vi a0.2] λx0=>nW ah [aC a1.1,vi a1.2] λx1=>gL (ak x0) λx2=>gL (ak x1) λx3=>sh (p9 n (x2.1,x2.2) (x3.1,x3.2)) λx4=>AI (x4.1,x4.2.1)
abbrev af0 (n:Nat):dV:=eN 11 [.agg [.sl,.int .i64],.agg [.sl,.int .i64]] [cp,jE] (pE n)
def Bh (n:Nat):aH TZp (af0 n):=bf Tryz.f11 (hT:=.m1 (K24 n))
abbrev C25 (n:Nat):List dV:=ald n::af0 n::C24 n
def K25 (n:Nat):eY TZp (C25 n):=.cons (Bg n) (.cons (Bh n) (K24 n))
def wO (n:Nat):M Bool:=nW av [vi 1,vi 2] λx0=>sh (iw n (ofBytes [49])) λx1=>sh (iw n (ofBytes [49])) λx2=>nW ar [vi 9,.string (ofBytes []),.bool false,aI,.slice (some (ak x0)) 2 3,vi x1.1,.string x1.2.1,.bool x1.2.2.1,aC x1.2.2.2.1,aC x1.2.2.2.2,vi x2.1,.string x2.2.1,.bool x2.2.2.1,aC x2.2.2.2.1,aC x2.2.2.2.2] λx3=>nW ah [aI,vi 0] λx4=>sN (ak x4) [.slice (some (ak x3)) 3 4,vi 0] λx5=>nW av [vi 1,vi 1] λx6=>sh (iw n (ofBytes [49])) λx7=>nW ar [vi 9,.string (ofBytes []),.bool false,aI,.slice (some (ak x6)) 2 3,vi x7.1,.string x7.2.1,.bool x7.2.2.1,aC x7.2.2.2.1,aC x7.2.2.2.2] λx8=>nW ah [aI,vi 0] λx9=>sN (ak x9) [.slice (some (ak x8)) 2 3,vi 0] λx10=>nW av [vi 1,vi 2] λx11=>sh (iw n (ofBytes [49])) λx12=>sh (iw n (ofBytes [53])) λx13=>nW ar [vi 9,.string (ofBytes []),.bool false,aI,.slice (some (ak x11)) 2 3,vi x12.1,.string x12.2.1,.bool x12.2.2.1,aC x12.2.2.2.1,aC x12.2.2.2.2,vi x13.1,.string x13.2.1,.bool x13.2.2.1,aC x13.2.2.2.1,aC x13.2.2.2.2] λkH=>nW ah [aI,vi 0] λx15=>sN (ak x15) [.slice (some (ak kH)) 3 4,vi 0] λrJ=>nW av [vi 0] λx17=>nW ar [vi 9,.string (ofBytes []),.bool false,aI,.slice (some (ak x17)) 1 2] λxa=>nW ah [aI,vi 0] λx19=>sN (ak x19) [.slice (some (ak xa)) 1 2,vi 0] λx20=>nW av [vi 1] λx21=>nW av [vi 0] λx22=>nW ar [vi 9,.string (ofBytes []),.bool false,aI,.slice (some (ak x21)) 1 2,vi 9,.string (ofBytes []),.bool false,aI,.slice (some (ak x22)) 1 2] λx23=>nW ah [aI,vi 0] λx24=>sN (ak x24) [.slice (some (ak x23)) 2 3,vi 0] λx25=>gL (ak x4) λx26=>gL (ak x15) λx27=>sh (pE n (x26.1,x26.2) (x27.1,x27.2)) λx28=>gL (ak x4) λx29=>gL (ak x9) λx30=>sh (jV n (x29.1,x29.2) (x30.1,x30.2)) λx31=>if x31 then gL (ak x4) λx32=>gL (ak x15) λx33=>sh (jV n (x32.1,x32.2) (x33.1,x33.2)) λx34=>if !x34 then gL (ak x19) λx35=>gL (ak x24) λx36=>sh (jV n (x35.1,x35.2) (x36.1,x36.2)) λx37=>if x37 then gL (ak x19) λx38=>gL (ak x4) λx39=>sh (jV n (x38.1,x38.2) (x39.1,x39.2)) λx40=>if !x40 then if x28.2 then nW aE [vi 1,.string (ofBytes [])] λx41=>sh (tF n x28.1 { a:=some (ak x41),len:=1,cap:=2 }) λx42=>AI x42 else AI false else AI false else AI false else AI false else AI false
abbrev amV (n:Nat):dV:=eN 5 [] [jE] (wO n)
def Al (n:Nat):aH TZp (amV n):=bf Tryz.f5 (hT:=.m1 (K25 n))
end Go.Sh
