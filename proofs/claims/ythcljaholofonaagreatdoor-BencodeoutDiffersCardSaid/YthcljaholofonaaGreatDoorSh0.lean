
import Derived.Test.YthcljaholofonaaGreatDoorShLib
set_option linter.all false
set_option maxRecDepth 100000
set_option maxHeartbeats 0
namespace Go.Sh
open Go Go.Ago Go.Proofs Go.IntKind
noncomputable abbrev TZp:=Tryz.prog
abbrev J11:=Int×Int×Int×Int×Int×Int×Int×Int×Int×Int×Int
abbrev C0 (n:Nat):List cA:=[eN 224 [.one (.str),.one (.str)] [.one (.int .i64)] (kY n),eN 65 [.one (.int .i64)] [.one (.str)] (strconv_Itoa n),eN 194 [.one (.str),.one (.str)] [.one (.str)] (iJ n),eN 97 [.one (.int .u64)] [.one (.int .i64)] (gR n),eN 98 [.one (.str),.one (.str)] [.one (.int .i64)] (cU n),eN 133 [.one (.str),.one (.int .u8)] [.one (.int .i64)] (strings_IndexByte n),eN 134 [.one (.str)] [.one (.int .i64),.one (.raw)] (strconv_Atoi n),eN 231 [.one (.int .u64),.one (.int .i64)] [.one (.str)] (hG n),eN 135 [.one (.str),.one (.str)] [.one (.str)] (strings_TrimPrefix n),eN 233 [.one (.str),.one (.int .i64)] [.one (.str)] (strings_Repeat n),eN 230 [.one (.int .u64)] [.one (.int .i64)] (dm n),eN 76 [.one (.str)] [.one (.int .i64),.one (.int .i64)] (tf n),eN 140 [.one (.str),.one (.str)] [.one (.str),.one (.bool)] (strings_CutPrefix n),eN 144 [.one (.str),.one (.int .i64),.one (.int .i64)] [.one (.int .u64),.one (.raw)] (gq n),eN 181 [.one (.int .u64)] [.one (.f64)] (dB n),eN 87 [.one (.ptr)] [.one (.ptr)] (ur n),eN 60 [.one (.str)] [.one (.bool)] (eV n),eN 190 [.one (.f64)] [.one (.int .u64)] (fU n)]
def K0 (n:Nat):cS TZp (C0 n):=.cons (Bb n) (.cons (Ix n) (.cons (CZ n) (.cons (Fi n) (.cons (rZ n) (.cons (CX n) (.cons (strconv_Atoi_ok n) (.cons (Ay n) (.cons (Cd n) (.cons (Gj n) (.cons (wY n) (.cons (Fh n) (.cons (Da n) (.cons (Db n) (.cons (Ax n) (.cons (Gk n) (.cons (xC n) (.cons (Ed n) .nil)))))))))))))))))
abbrev vC:=Addr->Int->Int->Int->M ((Int×Int)⊕Bool)
def nS (G:vC)(n:Nat)(a0:Addr)(a1 a2 a3:Int)(a4:Addr):M ((Int×Int)⊕Bool):=lS a4 3 λx0=>lS a4 4 λx1=>lT a4 1 λx2=>G a0 (i64.wrap (a1+i64.wrap ((↑x0.len:Int)+(↑x1.len:Int)))) (i64.wrap (a2+(↑(ByteArray.size x2):Int))) (i64.wrap (a3+1))
def qI:pq (vC):=λG n a0 a1 a2 a3=>lS a0 0 λx0=>if decide (a3<(↑x0.len:Int)) then lS a0 0 λx1=>iX x1 a3 5 λx2=>nL x2 λx3=>nW ar [vi 0,.string (ofBytes []),.bool false,aI,aI] λx4=>sN (ak x4) [vi x3.1,.string x3.2.1,.bool x3.2.2.1,aA x3.2.2.2.1,aA x3.2.2.2.2] λx5=>lT (ak x4) 1 λx6=>if decide (100<(↑(ByteArray.size x6):Int)) then AI (Sum.inr false) else lS (ak x4) 3 λx7=>if decide (80<(↑x7.len:Int)) then AI (Sum.inr false) else lS (ak x4) 4 λx8=>if decide (80<(↑x8.len:Int)) then AI (Sum.inr false) else nS G n a0 a1 a2 a3 (ak x4) else AI (Sum.inl (a1,a2))
def je:=lp qI
theorem zW (n:Nat):je (n+1)=qI (je n) n:=rfl
def Bc (n:Nat):=nS (je n) n
def lY (n:Nat)(a0:Sl×Int):M Bool:=nW ai [aA a0.1,vi a0.2] λx0=>lS (ak x0) 0 λx1=>if decide (40<(↑x1.len:Int)) then AI false else sh (je n (ak x0) 0 0 0) (aK (λx2=>if decide (x2.1<=240) then AI (decide (x2.2<=300)) else AI false) (λx2=>AI x2))
abbrev apR (n:Nat):cA:=eN 4 [.agg [.sl,.int .i64]] [jd] (lY n)
abbrev aoh:=L2 (bL 87) [(1,aB),(3,av),(4,av),(5,av)] [(3,av),(4,av)] [(2,jd)] (rG 2 5++rG 11 42) 0 .ret je
abbrev aad (n:Nat):List (gO ((Int×Int)⊕Bool)):=[jN (bL 11415) [.code (bL 15511),.au 1,.code (bL 919)] [(1,aB),(3,av),(4,av),(5,av),(6,aB)] (Bc n)]
def aae (n:Nat):=aoh.k TZp Tryz.f4 n (jt:=aad) (hT:=λm _=>.m3 (K0 m) (.cc .nil))
def Ee (n:Nat):aC TZp (apR n):=aL Tryz.f4 (hT:=.m2 (K0 n) (.cc (aae n) .nil))
def tE:pq (Addr->Bool->Sl->Int->Int->Sl->Int->Int->Sl->Int->Int->M Bool):=λG n a0 a1 a2 a3 a4 a5 a6 a7 a8 a9 a10=>if decide (a10<a9) then iX a8 a10 1 λx0=>eI x0 λx1=>if a1 then if decide (0<=x1) then lS a0 0 λx2=>G a0 (decide (x1<(↑x2.len:Int))) a2 a3 a4 a5 a6 a7 a8 a9 (i64.wrap (a10+1)) else G a0 false a2 a3 a4 a5 a6 a7 a8 a9 (i64.wrap (a10+1)) else G a0 false a2 a3 a4 a5 a6 a7 a8 a9 (i64.wrap (a10+1)) else AI a1
def oJ:=lp tE
theorem Ce (n:Nat):oJ (n+1)=tE (oJ n) n:=rfl
def mf:pq (Addr->Bool->Sl->Int->Int->Sl->Int->Int->M Bool):=λG n a0 a1 a2 a3 a4 a5 a6 a7=>if decide (a7<a6) then iX a5 a7 1 λx0=>eS x0 λx1=>sh (oJ n a0 a1 a2 a3 a4 a5 a6 a7 x1 (↑x1.len:Int) 0) λx2=>G a0 x2 a2 a3 a4 a5 a6 (i64.wrap (a7+1)) else AI a1
def oK:=lp mf
theorem qJ (n:Nat):oK (n+1)=mf (oK n) n:=rfl
def tF:pq (Addr->Bool->Sl->Int->Int->M Bool):=λG n a0 a1 a2 a3 a4=>if decide (a4<a3) then iX a2 a4 5 λx0=>nL x0 λx1=>nW ar [vi 0,.string (ofBytes []),.bool false,aI,aI] λx2=>sN (ak x2) [vi x1.1,.string x1.2.1,.bool x1.2.2.1,aA x1.2.2.2.1,aA x1.2.2.2.2] λx3=>lS (ak x2) 3 λx4=>lS (ak x2) 4 λx5=>nW aT [aA x4,aA x5] λx6=>sh (oK n a0 a1 a2 a3 a4 { a:=some (ak x6),len:=2,cap:=3 } (↑2:Int) 0) λx7=>G a0 x7 a2 a3 (i64.wrap (a4+1)) else AI a1
def oL:=lp tF
theorem Cf (n:Nat):oL (n+1)=tF (oL n) n:=rfl
def oM (n:Nat)(a0:Addr)(a1:Bool):M Bool:=lS a0 0 λx0=>sh (oL n a0 a1 x0 (↑x0.len:Int) 0) λx1=>AI x1
def wv (n:Nat)(a0:Sl×Int):M Bool:=nW ai [aA a0.1,vi a0.2] λx0=>lI (ak x0) 1 λx1=>if decide (0<=x1) then lI (ak x0) 1 λx2=>lS (ak x0) 0 λx3=>oM n (ak x0) (decide (x2<(↑x3.len:Int))) else oM n (ak x0) false
abbrev ahw (n:Nat):cA:=eN 25 [.agg [.sl,.int .i64]] [jd] (wv n)
abbrev ajp:=L1 [0,1,0,1,1] [(1,aB),(3,jd),(22,aU),(23,av),(24,av)] [(3,jd)] ([3,5,7,9]++rG 24 35) 0 oL
abbrev ajq:=L1 (bL 11467) [(1,aB),(3,jd),(22,aU),(23,av),(24,av),(32,aU),(33,av),(34,av)] [(3,jd)] ([3,7,9]++rG 34 24) 2 oK
abbrev ajr:=L1 (bL 2936011) [(1,aB),(3,jd),(22,aU),(23,av),(24,av),(32,aU),(33,av),(34,av),(38,aU),(39,av),(40,av)] [(3,jd)] ([3,9]++rG 40 17) 4 oJ
abbrev ajs (n:Nat):List (gO Bool):=[jN [0,0,1,1] [.code [1,0,1,1],.code [1,1,1]] [(1,aB),(3,jd)] (oM n)]
def Wg (n:Nat):=ajr.k TZp Tryz.f25 n (hT:=λm _=>.m1 (K0 m))
def Wh (n:Nat):=ajq.k TZp Tryz.f25 n (hT:=λm _=>.m2 (K0 m) (.cc (Wg m) .nil))
def Wi (n:Nat):=ajp.k TZp Tryz.f25 n (hT:=λm _=>.m2 (K0 m) (.cc (Wh m) .nil))
def Hi (n:Nat):aC TZp (ahw n):=aL Tryz.f25 (js:=ajs n) (hT:=⟨.nil,K0 n,.nil,(.cc (Wi n) .nil),(.cc .nil)⟩)
structure aS where
 gV:Int->Addr->Addr->Sl->Int->Int->M Unit
 gW:Addr->Sl->Int->Int->M Unit
 kI:Int->Addr->Addr->Addr->M Unit
def jm (G:aS)(n:Nat)(x:ξ)(a0:Int):M Unit:=if tU qV x then sh (sB [aB,aB,aB] x) λ(c:Addr×Addr×Addr)=>G.kI a0 c.1 c.2.1 c.2.2 else AS
abbrev qK:=jm
def rf (G:aS)(n:Nat)(a0:Int)(a1 a2:Addr)(a3:Sl)(a4 a5:Int):M Unit:=if decide (a5<a4) then iX a3 a5 1 λx0=>eI x0 λx1=>sh (dz .raw a2) λ(x2:ξ)=>sh (jm G n x2 x1) λx3=>G.gV a0 a1 a2 a3 a4 (i64.wrap (a5+1)) else AI ()
def rh (G:aS)(n:Nat)(a0:Addr)(a1:Sl)(a2 a3:Int):M Unit:=if decide (a3<a2) then iX a1 a3 1 λx0=>eI x0 λx1=>sh (dz .raw a0) λ(x2:ξ)=>sh (qK G n x2 x1) λx3=>G.gW a0 a1 a2 (i64.wrap (a3+1)) else AI ()
def uu (G:aS)(n:Nat)(a0:Int)(a1 a2 a3:Addr):M Unit:=eS a1 λx0=>iX x0 a0 1 λx1=>eB x1 λx2=>if x2 then AI () else eS a1 λx3=>iX x3 a0 1 λx4=>sN x4 [.bool true] λx5=>lS a2 0 λx6=>iX x6 a0 5 λx7=>lS x7 3 λx8=>sh (G.gV a0 a2 a3 x8 (↑x8.len:Int) 0) λx9=>lS a2 0 λcH=>iX cH a0 5 λx11=>lS x11 4 λx12=>sh (G.gW a3 x12 (↑x12.len:Int) 0) λx13=>AI ()
def aS.at:Nat->aS|0=>⟨λ_ _ _ _ _ _=>AS,λ_ _ _ _=>AS,λ_ _ _ _=>AS⟩|n+1=>⟨rf (aS.at n) n,rh (aS.at n) n,uu (aS.at n) n⟩
def gV (n:Nat):=(aS.at n).gV
theorem Az (n:Nat):gV (n+1)=rf (aS.at n) n:=rfl
def gW (n:Nat):=(aS.at n).gW
theorem AA (n:Nat):gW (n+1)=rh (aS.at n) n:=rfl
def kI (n:Nat):=(aS.at n).kI
theorem Dc (n:Nat):kI (n+1)=uu (aS.at n) n:=rfl
def Ef (n:Nat):=jm (aS.at n) n
def Eg (n:Nat):=qK (aS.at n) n
abbrev Uz (n:Nat):cA:=eN 50 [av,aB,aB,aB] [] (kI n)
abbrev ajt:=L1 [0,1,0,1,1] [(0,av),(2,aB),(3,aB),(21,aU),(22,av),(23,av)] [] ([6]++rG 23 8) 0 gV
abbrev aju:=L1 [0,1,1,1,1] [(3,aB),(36,aU),(37,av),(38,av)] [] ([8]++rG 38 8) 2 gW
abbrev C1 (n:Nat):List cA:=Uz n::C0 n
abbrev ajv (n:Nat):List tB:=[dN 27 [av] [] (Ef n), dN 42 [av] [] (Eg n)]
def iL (n:Nat):Prop:=aC TZp (Uz n)
def aeX (n:Nat)(H:iL n):cS TZp (C1 n):=.cons H (K0 n)
def Sb (n:Nat)(H:iL n):sP TZp (ajv n):=.cons (dA (.cons (lA [aB,aB,aB] (H)) .nil)) (.cons (dA (.cons (lA [aB,aB,aB] (H)) .nil)) .nil)
def Wj (n:Nat)(H:∀m,m<n->iL m):=ajt.k TZp Tryz.f50 n (hT:=λm hm=>⟨.nil,aeX m (H m hm),(Sb m (H m hm)),.nil,.nil⟩)
def Wl (n:Nat)(H:∀m,m<n->iL m):=aju.k TZp Tryz.f50 n (hT:=λm hm=>⟨.nil,aeX m (H m hm),(Sb m (H m hm)),.nil,.nil⟩)
def AB (n:Nat)(H:∀m,m<n+1->iL m):aC TZp (Uz (n+1)):=aL Tryz.f50 (hT:=⟨.nil,aeX n (H n (IT n)),(Sb n (H n (IT n))),(.cc (Wj n (λk hk=>H k (adX hk))) (.cc (Wl n (λk hk=>H k (adX hk))) .nil)),.nil⟩)
def vD:∀n m,m<n->iL m:=uq (P:=iL) (eJ Tryz.f50) λk h=>AB k h
def Fk (n:Nat):aC TZp (Uz n):=(vD (n+1) n (IT n))
def K1 (n:Nat):cS TZp (C1 n):=aeX n (vD (n+1) n (IT n))
def uv:pq (Sl->M Sl):=λG n a0=>if decide (0<(↑a0.len:Int)) then iX a0 (i64.wrap ((↑a0.len:Int)-1)) 1 λx0=>sh (dz (.int IntKind.u8) x0) λ(x1:Int)=>if decide (x1=0) then sh (jH a0 0 (i64.wrap ((↑a0.len:Int)-1)) gH 1) λx2=>G x2 else AI a0 else AI a0
def mX:=lp uv
theorem Dd (n:Nat):mX (n+1)=uv (mX n) n:=rfl
def Be (n:Nat)(a0:Sl):M Sl:=sh (mX n a0) λx0=>AI x0
abbrev aaf (n:Nat):cA:=eN 132 [aU] [aU] (Be n)
abbrev aeY:=L1 [0,0,1] [(0,aU)] [(0,aU)] ([0]++rG 3 17) 0 mX
def Sd (n:Nat):=aeY.k TZp Tryz.f132 n (hT:=λm _=>.m1 (K1 m))
def Iy (n:Nat):aC TZp (aaf n):=aL Tryz.f132 (hT:=.m2 (K1 n) (.cc (Sd n) .nil))
def uw:pq (Bool->Sl->Int->Addr->M (Sl×Int)):=λG n a0 a1 a2 a3=>if decide (0<(↑a1.len:Int)) then iX a1 (i64.wrap ((↑a1.len:Int)-1)) 1 λx0=>sh (dz (.int IntKind.u8) x0) λ(x1:Int)=>if decide (x1=0) then sh (jH a1 0 (i64.wrap ((↑a1.len:Int)-1)) gH 1) λx2=>G a0 x2 (i64.wrap (a2+1)) a3 else AI (a1,a2) else AI (a1,a2)
def qf:=lp uw
theorem De (n:Nat):qf (n+1)=uw (qf n) n:=rfl
def ux:pq (Bool->Sl->Int->Addr->M Sl):=λG n a0 a1 a2 a3=>if decide (0<(↑a1.len:Int)) then iX a1 0 1 λx0=>sh (dz (.int IntKind.u8) x0) λ(x1:Int)=>if decide (x1=0) then sh (jH a1 1 (↑a1.len:Int) gH 1) λx2=>G a0 x2 a2 a3 else AI a1 else AI a1
def qg:=lp ux
theorem Df (n:Nat):qg (n+1)=ux (qg n) n:=rfl
def xD (n:Nat)(a0:Bool)(a1:Sl)(a2:Int):M (Bool×Sl×Int):=nW bB [.bool false,aI,vi 0] λx0=>sh (qg n a0 a1 a2 (ak x0)) λx1=>sh (qf n a0 x1 a2 (ak x0)) λx2=>if decide ((↑x2.1.len:Int)=0) then sN (ak x0) [.bool false,aI,vi 0] λx3=>sh (cF [.bool,.sl,li] (ak x0)) λ(x4:Bool×Sl×Int)=>AI (x4.1,x4.2.1,x4.2.2) else sh (xm none gH [.int IntKind.u8 0] (↑x2.1.len:Int) (↑x2.1.len:Int)) λx3=>sh (Jv x3 x2.1 1) λx4=>sN (ak x0) [.bool a0,aA x3,vi x2.2] λx5=>sh (cF [.bool,.sl,li] (ak x0)) λ(x6:Bool×Sl×Int)=>AI (x6.1,x6.2.1,x6.2.2)
abbrev aag (n:Nat):cA:=eN 136 [jd,aU,av] [.agg [.bool,.sl,.int .i64]] (xD n)
abbrev aeZ:=L1 [0,0,1] [(0,jd),(1,aU),(2,av),(6,aB)] [(1,aU)] ([1]++rG 8 11) 0 qg
abbrev ae0:=L1 [0,0,1,1] [(0,jd),(1,aU),(2,av),(6,aB)] [(1,aU),(2,av)] ([1,2]++rG 19 19) 2 qf
def Se (n:Nat):=ae0.k TZp Tryz.f136 n (hT:=λm _=>.m1 (K1 m))
def Sf (n:Nat):=aeZ.k TZp Tryz.f136 n (hT:=λm _=>.m1 (K1 m))
def Iz (n:Nat):aC TZp (aag n):=aL Tryz.f136 (hT:=.m2 (K1 n) (.cc (Sf n) (.cc (Se n) .nil)))
def tG:pq (ζ->Sl->Int->Int->M Unit):=λG n a0 a1 a2 a3=>if decide (a3<a2) then sh (qc a0 a3) λx0=>iX a1 a3 1 λx1=>sN x1 [.int IntKind.u8 (IntKind.u8.wrap ((↑x0.toNat:Int)-48))] λx2=>G a0 a1 a2 (i64.wrap (a3+1)) else AI ()
def oN:=lp tG
theorem Cg (n:Nat):oN (n+1)=tG (oN n) n:=rfl
def wx (n:Nat)(a0:ζ):M Sl:=sh (xm none gH [.int IntKind.u8 0] (↑a0.size:Int) (↑a0.size:Int)) λx0=>sh (oN n a0 x0 (↑a0.size:Int) 0) λx1=>AI x0
abbrev aah (n:Nat):cA:=eN 137 [mV] [aU] (wx n)
abbrev ae1:=L1 [0,1,0,1,1] [(0,mV),(3,aU),(9,av),(10,av)] [] ([4]++rG 10 11) 0 oN
def Si (n:Nat):=ae1.k TZp Tryz.f137 n (hT:=λm _=>.m1 (K1 m))
def Hj (n:Nat):aC TZp (aah n):=aL Tryz.f137 (hT:=.m2 (K1 n) (.cc (Si n) .nil))
def qW (n:Nat)(a0:Bool×Sl×Int):M Int:=nW bB [.bool a0.1,aA a0.2.1,vi a0.2.2] λx0=>lS (ak x0) 1 λx1=>if decide (400<(↑x1.len:Int)) then AI 6 else lI (ak x0) 2 λx2=>if decide (x2 < -2000) then AI 2 else lI (ak x0) 2 λx3=>if decide (2000<x3) then AI 2 else AI 0
abbrev aai (n:Nat):cA:=eN 138 [.agg [.bool,.sl,.int .i64]] [av] (qW n)
def Dg (n:Nat):aC TZp (aai n):=aL Tryz.f138 (hT:=.m1 (K1 n))
def r9 (n:Nat)(a0:Bool×Sl×Int):M ζ:=nW bB [.bool a0.1,aA a0.2.1,vi a0.2.2] λx0=>lB (ak x0) 0 λx1=>if x1 then AI (ofBytes [45]) else AI (ofBytes [])
abbrev aaj (n:Nat):cA:=eN 222 [.agg [.bool,.sl,.int .i64]] [mV] (r9 n)
def Eh (n:Nat):aC TZp (aaj n):=aL Tryz.f222 (hT:=.m1 (K1 n))
def oO:pq (Sl->Sl->Int->Int->M Unit):=λG n a0 a1 a2 a3=>if decide (a3<a2) then iX a1 a3 1 λx0=>sh (dz (.int IntKind.u8) x0) λ(x1:Int)=>iX a0 a3 1 λx2=>sN x2 [.int IntKind.u8 (IntKind.u8.wrap (48+x1))] λx3=>G a0 a1 a2 (i64.wrap (a3+1)) else AI ()
def jn:=lp oO
theorem yx (n:Nat):jn (n+1)=oO (jn n) n:=rfl
def pJ (n:Nat)(a0:Bool×Sl×Int):M ζ:=nW bB [.bool a0.1,aA a0.2.1,vi a0.2.2] λx0=>lS (ak x0) 1 λx1=>sh (xm none gH [.int IntKind.u8 0] (↑x1.len:Int) (↑x1.len:Int)) λx2=>lS (ak x0) 1 λx3=>sh (jn n x2 x3 (↑x3.len:Int) 0) λx4=>sh (strOf x2) λx5=>AI x5
abbrev aak (n:Nat):cA:=eN 223 [.agg [.bool,.sl,.int .i64]] [mV] (pJ n)
abbrev ae2:=L1 [0,1,0,1,1] [(3,aU),(11,aU),(12,av),(13,av)] [] ([4,5]++rG 13 11) 0 jn
def Sj (n:Nat):=ae2.k TZp Tryz.f223 n (hT:=λm _=>.m1 (K1 m))
def Ch (n:Nat):aC TZp (aak n):=aL Tryz.f223 (hT:=.m2 (K1 n) (.cc (Sj n) .nil))
def Ki (n a0:Nat):M Bool:=AI !LK a0 a0
abbrev aal (n:Nat):cA:=eN 227 [.one (.f64)] [jd] (Ki n)
def LW (n:Nat):aC TZp (aal n):=aL Tryz.f227 (hT:=.m1 (K1 n))
abbrev xo:=Addr->Addr->Int->Int->Int->M (Int⊕(Int×Bool))
def pK (G:xo)(n:Nat)(a0 a1:Addr)(a2 a3 a4:Int):M (Int⊕(Int×Bool)):=eT a1 λx0=>eI a0 λx1=>sh (qc x0 x1) λx2=>eI a0 λx3=>sN a0 [vi (i64.wrap (x3+1))] λx4=>G a0 a1 (i64.wrap (i64.wrap (10*a2)+i64.wrap (IntKind.u8.wrap ((↑x2.toNat:Int)-48)))) a3 (i64.wrap (a4+1))
def kZ:pq (xo):=λG n a0 a1 a2 a3 a4=>if decide (a4<a3) then eI a0 λx0=>eT a1 λx1=>if decide ((↑(ByteArray.size x1):Int)<=x0) then AI (Sum.inr (0,false)) else eT a1 λx2=>eI a0 λx3=>sh (qc x2 x3) λx4=>if decide ((↑x4.toNat:Int)<48) then AI (Sum.inr (0,false)) else eT a1 λx5=>eI a0 λx6=>sh (qc x5 x6) λx7=>if decide (57<(↑x7.toNat:Int)) then AI (Sum.inr (0,false)) else pK G n a0 a1 a2 a3 a4 else AI (Sum.inl a2)
def kB:=lp kZ
def Dh (n:Nat):=pK (kB n) n
def ri (n:Nat)(a0:Int)(a1 a2:Addr):M (Int×Bool):=sh (kB n a1 a2 0 a0 0) (aK (λx0=>AI (x0,true)) (λx0=>AI (x0.1,x0.2)))
abbrev aam (n:Nat):cA:=eN 150 [av,aB,aB] [av,jd] (ri n)
abbrev ae3:=L2 [0,1,0,1,1] [(1,aB),(2,aB),(6,av),(7,av),(8,av)] [(6,av)] [(4,av),(5,jd)] ([4,5,6]++rG 8 29) 0 .ret kB
abbrev Sk (n:Nat):List (gO (Int⊕(Int×Bool))):=[jN (bL 5323) [.code (bL 7371),.au 1,.code (bL 971)] [(1,aB),(2,aB),(6,av),(7,av),(8,av)] (Dh n)]
def Sn (n:Nat):=ae3.k TZp Tryz.f150 n (jt:=Sk) (hT:=λm _=>.m3 (K1 m) (.cc .nil))
def zw (n:Nat):aC TZp (aam n):=aL Tryz.f150 (hT:=.m2 (K1 n) (.cc (Sn n) .nil))
def Bf (n:Nat)(a0:Int):M Bool:=sh (qT (decide (4≠0))) λx0=>if decide (a0.tmod 4=0) then sh (qT (decide (100≠0))) λx1=>if !decide (a0.tmod 100=0) then AI true else sh (qT (decide (400≠0))) λx2=>AI (decide (a0.tmod 400=0)) else AI false
abbrev aan (n:Nat):cA:=eN 232 [av] [jd] (Bf n)
def LX (n:Nat):aC TZp (aan n):=aL Tryz.f232 (hT:=.m1 (K1 n))
def wL (n:Nat)(a0:Int):M Int:=sh (qT (decide (4≠0))) λx0=>sh (qT (decide (100≠0))) λx1=>sh (qT (decide (400≠0))) λx2=>AI (i64.wrap (i64.wrap (i64.wrap (i64.wrap (365*a0)+i64.wrap ((i64.wrap (a0+3)).tdiv 4))-i64.wrap ((i64.wrap (a0+99)).tdiv 100))+i64.wrap ((i64.wrap (a0+399)).tdiv 400)))
abbrev aao (n:Nat):cA:=eN 192 [av] [av] (wL n)
def Kj (n:Nat):aC TZp (aao n):=aL Tryz.f192 (hT:=.m1 (K1 n))
def qh:pq (ζ->Int->Int->M (Unit⊕Bool)):=λG n a0 a1 a2=>if decide (a2<a1) then sh (qc a0 a2) λx0=>if decide (97<=(↑x0.toNat:Int)) then if decide ((↑x0.toNat:Int)<=122) then G a0 a1 (i64.wrap (a2+1)) else if decide (65<=(↑x0.toNat:Int)) then if decide ((↑x0.toNat:Int)<=90) then G a0 a1 (i64.wrap (a2+1)) else if decide (48<=(↑x0.toNat:Int)) then if decide ((↑x0.toNat:Int)<=57) then G a0 a1 (i64.wrap (a2+1)) else if decide ((↑x0.toNat:Int)=95) then G a0 a1 (i64.wrap (a2+1)) else if decide ((↑x0.toNat:Int)=45) then G a0 a1 (i64.wrap (a2+1)) else if decide ((↑x0.toNat:Int)=46) then G a0 a1 (i64.wrap (a2+1)) else if !decide ((↑x0.toNat:Int)=58) then AI (Sum.inr false) else G a0 a1 (i64.wrap (a2+1)) else if decide ((↑x0.toNat:Int)=95) then G a0 a1 (i64.wrap (a2+1)) else if decide ((↑x0.toNat:Int)=45) then G a0 a1 (i64.wrap (a2+1)) else if decide ((↑x0.toNat:Int)=46) then G a0 a1 (i64.wrap (a2+1)) else if !decide ((↑x0.toNat:Int)=58) then AI (Sum.inr false) else G a0 a1 (i64.wrap (a2+1)) else if decide (48<=(↑x0.toNat:Int)) then if decide ((↑x0.toNat:Int)<=57) then G a0 a1 (i64.wrap (a2+1)) else if decide ((↑x0.toNat:Int)=95) then G a0 a1 (i64.wrap (a2+1)) else if decide ((↑x0.toNat:Int)=45) then G a0 a1 (i64.wrap (a2+1)) else if decide ((↑x0.toNat:Int)=46) then G a0 a1 (i64.wrap (a2+1)) else if !decide ((↑x0.toNat:Int)=58) then AI (Sum.inr false) else G a0 a1 (i64.wrap (a2+1)) else if decide ((↑x0.toNat:Int)=95) then G a0 a1 (i64.wrap (a2+1)) else if decide ((↑x0.toNat:Int)=45) then G a0 a1 (i64.wrap (a2+1)) else if decide ((↑x0.toNat:Int)=46) then G a0 a1 (i64.wrap (a2+1)) else if !decide ((↑x0.toNat:Int)=58) then AI (Sum.inr false) else G a0 a1 (i64.wrap (a2+1)) else if decide (65<=(↑x0.toNat:Int)) then if decide ((↑x0.toNat:Int)<=90) then G a0 a1 (i64.wrap (a2+1)) else if decide (48<=(↑x0.toNat:Int)) then if decide ((↑x0.toNat:Int)<=57) then G a0 a1 (i64.wrap (a2+1)) else if decide ((↑x0.toNat:Int)=95) then G a0 a1 (i64.wrap (a2+1)) else if decide ((↑x0.toNat:Int)=45) then G a0 a1 (i64.wrap (a2+1)) else if decide ((↑x0.toNat:Int)=46) then G a0 a1 (i64.wrap (a2+1)) else if !decide ((↑x0.toNat:Int)=58) then AI (Sum.inr false) else G a0 a1 (i64.wrap (a2+1)) else if decide ((↑x0.toNat:Int)=95) then G a0 a1 (i64.wrap (a2+1)) else if decide ((↑x0.toNat:Int)=45) then G a0 a1 (i64.wrap (a2+1)) else if decide ((↑x0.toNat:Int)=46) then G a0 a1 (i64.wrap (a2+1)) else if !decide ((↑x0.toNat:Int)=58) then AI (Sum.inr false) else G a0 a1 (i64.wrap (a2+1)) else if decide (48<=(↑x0.toNat:Int)) then if decide ((↑x0.toNat:Int)<=57) then G a0 a1 (i64.wrap (a2+1)) else if decide ((↑x0.toNat:Int)=95) then G a0 a1 (i64.wrap (a2+1)) else if decide ((↑x0.toNat:Int)=45) then G a0 a1 (i64.wrap (a2+1)) else if decide ((↑x0.toNat:Int)=46) then G a0 a1 (i64.wrap (a2+1)) else if !decide ((↑x0.toNat:Int)=58) then AI (Sum.inr false) else G a0 a1 (i64.wrap (a2+1)) else if decide ((↑x0.toNat:Int)=95) then G a0 a1 (i64.wrap (a2+1)) else if decide ((↑x0.toNat:Int)=45) then G a0 a1 (i64.wrap (a2+1)) else if decide ((↑x0.toNat:Int)=46) then G a0 a1 (i64.wrap (a2+1)) else if !decide ((↑x0.toNat:Int)=58) then AI (Sum.inr false) else G a0 a1 (i64.wrap (a2+1)) else AI (Sum.inl ())
def sQ:=lp qh
def Bg (n:Nat)(a0:ζ):M Bool:=sh (sQ n a0 (↑a0.size:Int) 0) (aK (λx0=>if decide (1<=(↑a0.size:Int)) then AI (decide ((↑a0.size:Int)<=64)) else AI false) (λx0=>AI x0))
abbrev ahx (n:Nat):cA:=eN 51 [mV] [jd] (Bg n)
abbrev ajw:=L2 [0,1,0,1] [(0,mV),(6,av),(7,av)] [] [(2,jd)] ([2,3,4]++rG 7 46) 0 .ret sQ
def Wm (n:Nat):=ajw.k TZp Tryz.f51 n (hT:=λm _=>.m1 (K1 m))
def LY (n:Nat):aC TZp (ahx n):=aL Tryz.f51 (hT:=.m2 (K1 n) (.cc (Wm n) .nil))
def uy:pq (Sl->Addr->Sl->Int->Int->Sl->Int->Int->M Unit):=λG n a0 a1 a2 a3 a4 a5 a6 a7=>if decide (a7<a6) then iX a5 a7 1 λx0=>eI x0 λx1=>iX a0 x1 1 λx2=>eI x2 λx3=>iX a0 x1 1 λx4=>sN x4 [vi (i64.wrap (x3+1))] λx5=>G a0 a1 a2 a3 a4 a5 a6 (i64.wrap (a7+1)) else AI ()
def qi:=lp uy
theorem Di (n:Nat):qi (n+1)=uy (qi n) n:=rfl
def uz:pq (Sl->Sl->Int->Int->Sl->Int->Int->M Unit):=λG n a0 a1 a2 a3 a4 a5 a6=>if decide (a6<a5) then iX a4 a6 1 λx0=>eI x0 λx1=>iX a0 x1 1 λx2=>eI x2 λx3=>iX a0 x1 1 λx4=>sN x4 [vi (i64.wrap (x3+1))] λx5=>G a0 a1 a2 a3 a4 a5 (i64.wrap (a6+1)) else AI ()
def qj:=lp uz
theorem Dj (n:Nat):qj (n+1)=uz (qj n) n:=rfl
def uA:pq (Sl->Sl->Int->Int->M Unit):=λG n a0 a1 a2 a3=>if decide (a3<a2) then iX a1 a3 5 λx0=>nL x0 λx1=>nW ar [vi 0,.string (ofBytes []),.bool false,aI,aI] λx2=>sN (ak x2) [vi x1.1,.string x1.2.1,.bool x1.2.2.1,aA x1.2.2.2.1,aA x1.2.2.2.2] λx3=>lS (ak x2) 3 λx4=>sh (qi n a0 (ak x2) a1 a2 a3 x4 (↑x4.len:Int) 0) λx5=>lS (ak x2) 4 λx6=>sh (qj n a0 a1 a2 a3 x6 (↑x6.len:Int) 0) λx7=>G a0 a1 a2 (i64.wrap (a3+1)) else AI ()
def qk:=lp uA
theorem Dk (n:Nat):qk (n+1)=uA (qk n) n:=rfl
def uB (n:Nat)(a0:Sl×Int):M Sl:=nW ai [aA a0.1,vi a0.2] λx0=>lS (ak x0) 0 λx1=>sh (xm none an [vi 0] (↑x1.len:Int) (↑x1.len:Int)) λx2=>lI (ak x0) 1 λx3=>iX x2 x3 1 λx4=>eI x4 λx5=>iX x2 x3 1 λx6=>sN x6 [vi (i64.wrap (x5+1))] λx7=>lS (ak x0) 0 λx8=>sh (qk n x2 x8 (↑x8.len:Int) 0) λx9=>AI x2
abbrev ahy (n:Nat):cA:=eN 28 [.agg [.sl,.int .i64]] [aU] (uB n)
abbrev ajx:=L1 (bL 87) [(3,aU),(22,aU),(23,av),(24,av)] [] ([5,7,9]++rG 24 33) 0 qk
abbrev ajy:=L1 (bL 43415) [(3,aU),(5,aB),(22,aU),(23,av),(24,av),(29,aU),(30,av),(31,av)] [] ([7]++rG 31 11) 2 qi
abbrev ajz:=L1 (bL 47511) [(3,aU),(22,aU),(23,av),(24,av),(43,aU),(44,av),(45,av)] [] ([9]++rG 45 11) 4 qj
def Wn (n:Nat):=ajy.k TZp Tryz.f28 n (hT:=λm _=>.m1 (K1 m))
def Wo (n:Nat):=ajz.k TZp Tryz.f28 n (hT:=λm _=>.m1 (K1 m))
def Wq (n:Nat):=ajx.k TZp Tryz.f28 n (hT:=λm _=>.m2 (K1 m) (.cc (Wn m) (.cc (Wo m) .nil)))
def IA (n:Nat):aC TZp (ahy n):=aL Tryz.f28 (hT:=.m2 (K1 n) (.cc (Wq n) .nil))
structure bC where
 jQ:Addr->Addr->Addr->Int->Int->Bool->Sl->Int->Int->Sl->Int->Int->M Bool
 nT:Addr->Addr->Addr->Sl->Int->Int->M (Unit⊕Bool)
 iA:Addr->Addr->Addr->Int->Int->M (Unit⊕Bool)
 kJ:(Sl×Int)->Int->Int->M Bool
def wZ (G:bC)(n:Nat)(a0 a1 a2:Addr)(a3 a4:Int)(a5:Bool)(a6:Sl)(a7 a8:Int)(a9:Sl)(a10 a11:Int):M Bool:=if decide (a11<a10) then iX a9 a11 1 λx0=>eI x0 λx1=>if a5 then G.jQ a0 a1 a2 a3 a4 true a6 a7 a8 a9 a10 (i64.wrap (a11+1)) else gL a0 λx2=>sh (G.kJ (x2.1,x2.2) a4 x1) λx3=>if x3 then gL a0 λx4=>lS a1 4 λx5=>iX x5 a3 1 λx6=>eI x6 λx7=>lS a2 4 λx8=>iX x8 a11 1 λx9=>eI x9 λcH=>sh (G.kJ (x4.1,x4.2) x7 cH) λx11=>G.jQ a0 a1 a2 a3 a4 x11 a6 a7 a8 a9 a10 (i64.wrap (a11+1)) else G.jQ a0 a1 a2 a3 a4 false a6 a7 a8 a9 a10 (i64.wrap (a11+1)) else AI a5
def w3 (G:bC)(n:Nat)(a0 a1 a2:Addr)(a3:Sl)(a4 a5:Int):M (Unit⊕Bool):=if decide (a5<a4) then iX a3 a5 1 λx0=>eI x0 λx1=>lS a2 3 λx2=>sh (G.jQ a0 a1 a2 a5 x1 false a3 a4 a5 x2 (↑x2.len:Int) 0) λx3=>if !x3 then AI (Sum.inr false) else G.nT a0 a1 a2 a3 a4 (i64.wrap (a5+1)) else AI (Sum.inl ())
def w5 (G:bC)(n:Nat)(a0 a1 a2:Addr)(a3 a4:Int):M (Unit⊕Bool):=if decide (a4<a3) then lI a1 0 λx0=>if decide (x0=10) then gL a0 λx1=>lS a1 3 λx2=>iX x2 a4 1 λx3=>eI x3 λx4=>lS a2 3 λx5=>iX x5 a4 1 λx6=>eI x6 λx7=>sh (G.kJ (x1.1,x1.2) x4 x7) λx8=>if !x8 then AI (Sum.inr false) else gL a0 λx9=>lS a1 4 λcH=>iX cH a4 1 λx11=>eI x11 λx12=>lS a2 4 λx13=>iX x13 a4 1 λx14=>eI x14 λx15=>sh (G.kJ (x9.1,x9.2) x12 x15) λx16=>if !x16 then AI (Sum.inr false) else G.iA a0 a1 a2 a3 (i64.wrap (a4+1)) else gL a0 λx1=>lS a1 4 λx2=>iX x2 a4 1 λx3=>eI x3 λx4=>lS a2 4 λx5=>iX x5 a4 1 λx6=>eI x6 λx7=>sh (G.kJ (x1.1,x1.2) x4 x7) λx8=>if !x8 then AI (Sum.inr false) else G.iA a0 a1 a2 a3 (i64.wrap (a4+1)) else AI (Sum.inl ())
def w6 (G:bC)(n:Nat)(a0 a1 a2:Addr):M Bool:=lI a1 0 λx0=>if decide (x0=10) then lB a1 2 λx1=>if !x1 then lS a1 3 λx2=>sh (G.nT a0 a1 a2 x2 (↑x2.len:Int) 0) (aK (λx3=>AI true) (λx3=>AI x3)) else lS a1 4 λx2=>sh (G.iA a0 a1 a2 (↑x2.len:Int) 0) (aK (λx3=>AI true) (λx3=>AI x3)) else lS a1 4 λx1=>sh (G.iA a0 a1 a2 (↑x1.len:Int) 0) (aK (λx2=>AI true) (λx2=>AI x2))
def Bh (G:bC)(n:Nat)(a0:Sl×Int)(a1 a2:Int):M Bool:=nW ai [aA a0.1,vi a0.2] λx0=>sh (bX 14) λx1=>lS (ak x0) 0 λx2=>iX x2 a1 5 λx3=>nL x3 λx4=>lS (ak x0) 0 λx5=>iX x5 a2 5 λx6=>nL x6 λx7=>sh (gG (some (x1+10)) ar [vi 0,.string (ofBytes []),.bool false,aI,aI]) λx8=>sh (gG (some (x1+11)) ar [vi 0,.string (ofBytes []),.bool false,aI,aI]) λx9=>sh (sM [some ((ak x0).plus 0),some x6] (sL (ak x8) [vi x4.1,.string x4.2.1,.bool x4.2.2.1,aA x4.2.2.2.1,aA x4.2.2.2.2])) λcH=>sN (ak x9) [vi x7.1,.string x7.2.1,.bool x7.2.2.1,aA x7.2.2.2.1,aA x7.2.2.2.2] λx11=>lI (ak x8) 0 λx12=>lI (ak x9) 0 λx13=>if !decide (x12=x13) then AI false else lT (ak x8) 1 λx14=>lT (ak x9) 1 λx15=>if !oG x14 x15 then AI false else lB (ak x8) 2 λx16=>lB (ak x9) 2 λx17=>if !x16==x17 then AI false else lS (ak x8) 4 λx18=>lS (ak x9) 4 λx19=>if !decide ((↑x18.len:Int)=(↑x19.len:Int)) then AI false else w6 G n (ak x0) (ak x8) (ak x9)
def bC.at:Nat->bC|0=>⟨λ_ _ _ _ _ _ _ _ _ _ _ _=>AS,λ_ _ _ _ _ _=>AS,λ_ _ _ _ _=>AS,λ_ _ _=>AS⟩|n+1=>⟨wZ (bC.at n) n,w3 (bC.at n) n,w5 (bC.at n) n,Bh (bC.at n) n⟩
def jQ (n:Nat):=(bC.at n).jQ
theorem Fm (n:Nat):jQ (n+1)=wZ (bC.at n) n:=rfl
def nT (n:Nat):=(bC.at n).nT
theorem Fo (n:Nat):nT (n+1)=w3 (bC.at n) n:=rfl
def iA (n:Nat):=(bC.at n).iA
theorem Fp (n:Nat):iA (n+1)=w5 (bC.at n) n:=rfl
def kJ (n:Nat):=(bC.at n).kJ
theorem IB (n:Nat):kJ (n+1)=Bh (bC.at n) n:=rfl
def LZ (n:Nat):=w6 (bC.at n) n
abbrev aap (n:Nat):cA:=eN 52 [.agg [.sl,.int .i64],av,av] [jd] (kJ n)
abbrev ajA:=L2 (bL 663) [(3,aB),(7,aB),(8,aB),(62,aU),(63,av),(64,av)] [] [(6,jd)] ([6]++rG 9 5++rG 64 38) 0 .ret nT
abbrev ajB:=L1 (bL 707735) [(3,aB),(7,aB),(8,aB),(9,av),(10,av),(11,jd),(62,aU),(63,av),(64,av),(70,aU),(71,av),(72,av)] [(11,jd)] ([11,12,13]++rG 72 27) 2 jQ
abbrev ajC:=L2 (bL 175) [(3,aB),(7,aB),(8,aB),(104,av),(105,av)] [] [(6,jd)] ([6,14]++rG 105 37) 4 .ret iA
abbrev C2 (n:Nat):List cA:=aap n::C1 n
def NP:=dR [(1,[0,2,5,7,1,3,4,6,8,9,10,11,10007012,13]),(12,[0,1,3,4,2,5,6,8,10,13,15,7,9,11,12,14]++rG 16 6),(21,[0,1,2,3,5,7,10,12,4,6,8,9,11]++rG 13 6++[20,22,25,27,19,21,23,24,26]++rG 28 5)]
abbrev ajD (n:Nat):List (gO Bool):=[jN [0,0,1,1,1] [.code [1,0,1,1,1],.code [1,1,1,1]] [(3,aB),(7,aB),(8,aB)] (LZ n)]
def pL (n:Nat):Prop:=aC TZp (aap n)
def aaq (n:Nat)(H:pL n):cS TZp (C2 n):=.cons H (K1 n)
def Ws (n:Nat)(H:∀m,m<n->pL m):=ajB.k TZp Tryz.f52 n (dr:=NP) (hT:=λm hm=>.m1 (aaq m (H m hm)))
def Wt (n:Nat)(H:∀m,m<n->pL m):=ajA.k TZp Tryz.f52 n (dr:=NP) (hT:=λm hm=>.m2 (aaq m (H m hm)) (.cc (Ws m (λk hk=>H k (anE hk hm))) .nil))
def Wu (n:Nat)(H:∀m,m<n->pL m):=ajC.k TZp Tryz.f52 n (dr:=NP) (hT:=λm hm=>.m1 (aaq m (H m hm)))
def Fq (n:Nat)(H:∀m,m<n+1->pL m):aC TZp (aap (n+1)):=aL Tryz.f52 (dr:=NP) (js:=ajD n) (hT:=⟨.nil,aaq n (H n (IT n)),.nil,(.cc (Wt n (λk hk=>H k (adX hk))) (.cc (Wu n (λk hk=>H k (adX hk))) .nil)),(.cc .nil)⟩)
def Hk:∀n m,m<n->pL m:=uq (P:=pL) (eJ Tryz.f52) λk h=>Fq k h
def K2 (n:Nat):cS TZp (C2 n):=aaq n (Hk (n+1) n (IT n))
structure ay where
 ff:Addr->Addr->Addr->Addr->Addr->Int->M Int
 fh:Addr->Addr->Addr->Addr->Addr->Addr->Addr->ξ->Sl->Int->Int->M Unit
 fj:Addr->Addr->Addr->Addr->Addr->Addr->Addr->Addr->ξ->Sl->Int->Int->M Unit
 gX:Int->Addr->Addr->Addr->Addr->Addr->Addr->Addr->Addr->Addr->M Unit
 hS:Int->Addr->Addr->Addr->Addr->Addr->M Unit
def gI (G:ay)(n:Nat)(x:ξ)(a0:Int):M Unit:=if tU lG x then sh (sB [aB,aB,aB,aB,aB] x) λ(c:Addr×Addr×Addr×Addr×Addr)=>G.hS a0 c.1 c.2.1 c.2.2.1 c.2.2.2.1 c.2.2.2.2 else AS
abbrev nU:=gI
def mh (G:ay)(n:Nat)(x:ξ)(a0:Int):M Unit:=if tU nz x then sh (sB [aB,aB,aB,aB,aB,aB,aB,aB,aB] x) λ(c:Addr×Addr×Addr×Addr×Addr×Addr×Addr×Addr×Addr)=>G.gX a0 c.1 c.2.1 c.2.2.1 c.2.2.2.1 c.2.2.2.2.1 c.2.2.2.2.2.1 c.2.2.2.2.2.2.1 c.2.2.2.2.2.2.2.1 c.2.2.2.2.2.2.2.2 else AS
def oP (G:ay)(n:Nat)(a0 a1 a2 a3 a4:Addr)(a5:Int):M Int:=eS a0 λx0=>eS a0 λx1=>iX x0 (i64.wrap ((↑x1.len:Int)-1)) 1 λx2=>eI x2 λx3=>eS a0 λx4=>eS a0 λx5=>sh (jH x4 0 (i64.wrap ((↑x5.len:Int)-1)) an 1) λx6=>sN a0 [aA x6] λx7=>eS a1 λx8=>iX x8 x3 1 λx9=>sN x9 [.bool false] λcH=>eS a3 λx11=>eS a2 λx12=>iX x11 x3 1 λx13=>sN x13 [vi (↑x12.len:Int)] λx14=>eI a4 λx15=>if decide (x3=x15) then AI (i64.wrap (a5+1)) else G.ff a0 a1 a2 a3 a4 (i64.wrap (a5+1))
def oQ (G:ay)(n:Nat)(a0 a1 a2 a3 a4 a5 a6:Addr)(a7:ξ)(a8:Sl)(a9 a10:Int):M Unit:=if decide (a10<a9) then iX a8 a10 1 λx0=>eI x0 λx1=>sh (nU G n a7 x1) λx2=>G.fh a0 a1 a2 a3 a4 a5 a6 a7 a8 a9 (i64.wrap (a10+1)) else AI ()
def oR (G:ay)(n:Nat)(a0 a1 a2 a3 a4 a5 a6 a7:Addr)(a8:ξ)(a9:Sl)(a10 a11:Int):M Unit:=if decide (a11<a10) then iX a9 a11 1 λx0=>eI x0 λx1=>sh (gI G n a8 x1) λx2=>G.fj a0 a1 a2 a3 a4 a5 a6 a7 a8 a9 a10 (i64.wrap (a11+1)) else AI ()
def rj (G:ay)(n:Nat)(a0:Int)(a1 a2 a3 a4 a5 a6 a7 a8 a9:Addr):M Unit:=nW an [vi a0] λx0=>eI a1 λx1=>sN a1 [vi (i64.wrap (x1+1))] λx2=>eS a2 λx3=>sh (dz li (ak x0)) λ(x4:Int)=>eS a3 λx5=>sh (dz li (ak x0)) λ(x6:Int)=>eI a1 λx7=>iX x3 x4 1 λx8=>eI a1 λx9=>sh (sM [some a3,some (ak x0),some a1] (sL x8 [vi x7])) λcH=>iX x5 x6 1 λx11=>sN x11 [vi x9] λx12=>eS a4 λx13=>sh (dz li (ak x0)) λ(x14:Int)=>sh (app false x13 1 an 1 [vi x14]) λx15=>sN a4 [aA x15] λx16=>eS a5 λx17=>sh (dz li (ak x0)) λ(x18:Int)=>iX x17 x18 1 λx19=>sN x19 [.bool true] λx20=>lS a7 0 λx21=>sh (dz li (ak x0)) λ(x22:Int)=>iX x21 x22 5 λx23=>lS x23 3 λx24=>sh (G.fj a2 a3 a4 a5 a7 a8 a9 (ak x0) (Value.func (Fn.func lG) #[] #[.pointer (some a2),.pointer (some a6),.pointer (some a3),.pointer (some (ak x0)),.pointer (some a5)]) x24 (↑x24.len:Int) 0) λx25=>lS a7 0 λx26=>sh (dz li (ak x0)) λ(x27:Int)=>iX x26 x27 5 λx28=>lS x28 4 λx29=>sh (G.fh a2 a3 a4 a5 a8 a9 (ak x0) (Value.func (Fn.func lG) #[] #[.pointer (some a2),.pointer (some a6),.pointer (some a3),.pointer (some (ak x0)),.pointer (some a5)]) x29 (↑x29.len:Int) 0) λx30=>eS a3 λx31=>sh (dz li (ak x0)) λ(x32:Int)=>iX x31 x32 1 λx33=>eI x33 λx34=>eS a2 λx35=>sh (dz li (ak x0)) λ(x36:Int)=>iX x35 x36 1 λx37=>eI x37 λx38=>if !decide (x34=x38) then AI () else sh (G.ff a4 a5 a8 a9 (ak x0) 0) λx39=>eS a8 λx40=>sh (app false x40 1 an 1 [vi x39]) λx41=>sN a8 [aA x41] λx42=>AI ()
def pM (G:ay)(n:Nat)(a0:Int)(a1 a2 a3 a4 a5:Addr):M Unit:=eS a1 λx0=>iX x0 a0 1 λx1=>eI x1 λx2=>if decide (x2=0) then sh (dz .raw a2) λ(x3:ξ)=>sh (mh G n x3 a0) λx4=>eS a3 λx5=>eI a4 λx6=>eS a3 λx7=>eI a4 λx8=>iX x7 x8 1 λx9=>eI x9 λcH=>eS a3 λx11=>iX x11 a0 1 λx12=>eI x12 λx13=>iX x5 x6 1 λx14=>sN x14 [vi (if x13<cH then x13 else cH)] λx15=>AI () else eS a5 λx3=>iX x3 a0 1 λx4=>eB x4 λx5=>if x5 then eS a3 λx6=>eI a4 λx7=>eS a3 λx8=>eI a4 λx9=>iX x8 x9 1 λcH=>eI cH λx11=>eS a1 λx12=>iX x12 a0 1 λx13=>eI x13 λx14=>iX x6 x7 1 λx15=>sN x15 [vi (if x14<x11 then x14 else x11)] λx16=>AI () else AI ()
def ay.at:Nat->ay|0=>⟨λ_ _ _ _ _ _=>AS,λ_ _ _ _ _ _ _ _ _ _ _=>AS,λ_ _ _ _ _ _ _ _ _ _ _ _=>AS,λ_ _ _ _ _ _ _ _ _ _=>AS,λ_ _ _ _ _ _=>AS⟩|n+1=>⟨oP (ay.at n) n,oQ (ay.at n) n,oR (ay.at n) n,rj (ay.at n) n,pM (ay.at n) n⟩
def ff (n:Nat):=(ay.at n).ff
theorem yy (n:Nat):ff (n+1)=oP (ay.at n) n:=rfl
def fh (n:Nat):=(ay.at n).fh
theorem yz (n:Nat):fh (n+1)=oQ (ay.at n) n:=rfl
def fj (n:Nat):=(ay.at n).fj
theorem yA (n:Nat):fj (n+1)=oR (ay.at n) n:=rfl
def gX (n:Nat):=(ay.at n).gX
theorem AD (n:Nat):gX (n+1)=rj (ay.at n) n:=rfl
def hS (n:Nat):=(ay.at n).hS
theorem zf (n:Nat):hS (n+1)=pM (ay.at n) n:=rfl
def Bi (n:Nat):=gI (ay.at n) n
def Bj (n:Nat):=nU (ay.at n) n
def zX (n:Nat):=mh (ay.at n) n
abbrev UA (n:Nat):cA:=eN 79 [av,aB,aB,aB,aB,aB,aB,aB,aB,aB] [] (gX n)
abbrev ajE:=L1 (bL 703) [(2,aB),(3,aB),(4,aB),(5,aB),(7,aB),(8,aB),(9,aB),(10,aB),(11,vA),(41,aU),(42,av),(43,av)] [] ([13]++rG 43 8) 0 fj
abbrev ajF:=L1 (bL 1407) [(2,aB),(3,aB),(4,aB),(5,aB),(8,aB),(9,aB),(10,aB),(11,vA),(56,aU),(57,av),(58,av)] [] ([15]++rG 58 8) 2 fh
abbrev ajG:=L1 (bL 5119) [(4,aB),(5,aB),(8,aB),(9,aB),(10,aB),(16,av)] [(16,av)] ([16,17]++rG 75 24) 4 ff
abbrev aar (n:Nat):cA:=eN 80 [av,aB,aB,aB,aB,aB] [] (hS n)
abbrev C3 (n:Nat):List cA:=UA n::aar n::C2 n
abbrev ajH (n:Nat):List tB:=[dN 47 [av] [] (Bi n), dN 62 [av] [] (Bj n)]
def NQ:=dR [(2,rG 0 5++[6,5,6004003007,8,9]),(16,rG 0 9)]
abbrev ajI (n:Nat):List tB:=[dN 12 [av] [] (zX n)]
def ajJ:=dR [(2,[7]++rG 0 7++rG 8 5),(4,[7]++rG 0 7++rG 8 5)]
def cI (n:Nat):Prop:=aC TZp (UA n)/\aC TZp (aar n)
def Wv (n:Nat)(H:cI n):cS TZp (C3 n):=.cons H.1 (.cons H.2 (K2 n))
def NR (n:Nat)(H:cI n):sP TZp (ajH n):=.cons (dA (.cons (lA [aB,aB,aB,aB,aB] (H).2) .nil)) (.cons (dA (.cons (lA [aB,aB,aB,aB,aB] (H).2) .nil)) .nil)
def Ww (n:Nat)(H:∀m,m<n->cI m):=ajG.k TZp Tryz.f79 n (dr:=NQ) (hT:=λm hm=>⟨.nil,Wv m (H m hm),(NR m (H m hm)),.nil,.nil⟩)
def Wx (n:Nat)(H:∀m,m<n->cI m):=ajF.k TZp Tryz.f79 n (dr:=NQ) (hT:=λm hm=>⟨.nil,Wv m (H m hm),(NR m (H m hm)),.nil,.nil⟩)
def Wy (n:Nat)(H:∀m,m<n->cI m):=ajE.k TZp Tryz.f79 n (dr:=NQ) (hT:=λm hm=>⟨.nil,Wv m (H m hm),(NR m (H m hm)),.nil,.nil⟩)
def yB (n:Nat)(H:∀m,m<n+1->cI m):aC TZp (UA (n+1)):=aL Tryz.f79 (dr:=NQ) (hT:=⟨.nil,Wv n (H n (IT n)),(NR n (H n (IT n))),(.cc (Wy n (λk hk=>H k (adX hk))) (.cc (Wx n (λk hk=>H k (adX hk))) (.cc (Ww n (λk hk=>H k (adX hk))) .nil))),.nil⟩)
def ajK (n:Nat)(H:cI n):sP TZp (ajI n):=.cons (dA (.cons (lA [aB,aB,aB,aB,aB,aB,aB,aB,aB] (H).1) .nil)) .nil
def w7 (n:Nat)(H:∀m,m<n+1->cI m):aC TZp (aar (n+1)):=aL Tryz.f80 (dr:=ajJ) (hT:=⟨.nil,Wv n (H n (IT n)),(ajK n (H n (IT n))),.nil,.nil⟩)
def sR:∀n m,m<n->cI m:=uq (P:=cI) (⟨eJ Tryz.f79,eJ Tryz.f80⟩) λk h=>⟨yB k h,w7 k h⟩
def Ci (n:Nat):aC TZp (UA n):=(sR (n+1) n (IT n)).1
def K3 (n:Nat):cS TZp (C3 n):=Wv n (sR (n+1) n (IT n))
structure bM where
 mi:Addr->Addr->Int->Sl->Sl->Sl->Int->Int->M Sl
 mj:Addr->Addr->Int->Addr->Sl->Sl->Sl->Int->Int->M Sl
 rn:Int->Addr->Addr->Addr->M Int
def nC (G:bM)(n:Nat)(x:ξ)(a0:Int):M Int:=if tU wu x then sh (sB [aB,aB,aB] x) λ(c:Addr×Addr×Addr)=>G.rn a0 c.1 c.2.1 c.2.2 else AS
abbrev zx:=nC
def vJ (G:bM)(n:Nat)(a0 a1:Addr)(a2:Int)(a3 a4 a5:Sl)(a6 a7:Int):M Sl:=if decide (a7<a6) then iX a5 a7 1 λx0=>eI x0 λx1=>sh (dz .raw a1) λ(x2:ξ)=>sh (zx G n x2 x1) λx3=>sh (app false a4 1 an 1 [vi x3]) λx4=>G.mi a0 a1 a2 a3 x4 a5 a6 (i64.wrap (a7+1)) else AI a4
def vK (G:bM)(n:Nat)(a0 a1:Addr)(a2:Int)(a3:Addr)(a4 a5 a6:Sl)(a7 a8:Int):M Sl:=if decide (a8<a7) then iX a6 a8 1 λx0=>eI x0 λx1=>sh (dz .raw a1) λ(x2:ξ)=>sh (nC G n x2 x1) λx3=>sh (app false a4 1 an 1 [vi x3]) λx4=>G.mj a0 a1 a2 a3 x4 a5 a6 a7 (i64.wrap (a8+1)) else AI a4
def zY (G:bM)(n:Nat)(a0:Int)(a1 a2 a3:Addr):M Int:=lS a1 0 λx0=>lS a2 0 λx1=>iX x1 a0 5 λx2=>nL x2 λx3=>nW ar [vi 0,.string (ofBytes []),.bool false,aI,aI] λx4=>sN (ak x4) [vi x3.1,.string x3.2.1,.bool x3.2.2.1,aA x3.2.2.2.1,aA x3.2.2.2.2] λx5=>lS a1 0 λx6=>lI (ak x4) 0 λx7=>lT (ak x4) 1 λx8=>lB (ak x4) 2 λx9=>sh (app false x6 5 ar 1 [vi x7,.string x8,.bool x9,aI,aI]) λcH=>sN (a1.plus 0) [aA cH] λx11=>lS (ak x4) 3 λx12=>sh (G.mj a1 a3 (↑x0.len:Int) (ak x4) oz oz x12 (↑x12.len:Int) 0) λx13=>lS (ak x4) 4 λx14=>sh (G.mi a1 a3 (↑x0.len:Int) x13 oz x14 (↑x14.len:Int) 0) λx15=>lS a1 0 λx16=>iX x16 (↑x0.len:Int) 5 λx17=>lS a1 0 λx18=>sh (sM [some (a1.plus 0)] (sL (x17.plus 3) [aA x13])) λx19=>iX x18 (↑x0.len:Int) 5 λx20=>sN (x20.plus 4) [aA x15] λx21=>AI (↑x0.len:Int)
def bM.at:Nat->bM|0=>⟨λ_ _ _ _ _ _ _ _=>AS,λ_ _ _ _ _ _ _ _ _=>AS,λ_ _ _ _=>AS⟩|n+1=>⟨vJ (bM.at n) n,vK (bM.at n) n,zY (bM.at n) n⟩
def mi (n:Nat):=(bM.at n).mi
theorem Ei (n:Nat):mi (n+1)=vJ (bM.at n) n:=rfl
def mj (n:Nat):=(bM.at n).mj
theorem Ej (n:Nat):mj (n+1)=vK (bM.at n) n:=rfl
def rn (n:Nat):=(bM.at n).rn
theorem Hl (n:Nat):rn (n+1)=zY (bM.at n) n:=rfl
def IC (n:Nat):=nC (bM.at n) n
def ID (n:Nat):=zx (bM.at n) n
abbrev UB (n:Nat):cA:=eN 81 [av,aB,aB,aB] [av] (rn n)
abbrev ajL:=L1 (bL 351) [(1,aB),(3,aB),(6,av),(7,aB),(8,aU),(9,aU),(35,aU),(36,av),(37,av)] [(8,aU)] ([8,11]++rG 37 11) 0 mj
abbrev ajM:=L1 (bL 703) [(1,aB),(3,aB),(6,av),(8,aU),(9,aU),(49,aU),(50,av),(51,av)] [(9,aU)] ([9,13]++rG 51 11) 2 mi
abbrev C4 (n:Nat):List cA:=UB n::C3 n
abbrev ajN (n:Nat):List tB:=[dN 42 [av] [av] (IC n), dN 56 [av] [av] (ID n)]
def So:=dR [(15,[0,2,3,5,6,7,1,8,9,4,5010,11,12,13])]
def nV (n:Nat):Prop:=aC TZp (UB n)
def ae4 (n:Nat)(H:nV n):cS TZp (C4 n):=.cons H (K3 n)
def Sp (n:Nat)(H:nV n):sP TZp (ajN n):=.cons (dA (.cons (lA [aB,aB,aB] (H)) .nil)) (.cons (dA (.cons (lA [aB,aB,aB] (H)) .nil)) .nil)
def Wz (n:Nat)(H:∀m,m<n->nV m):=ajM.k TZp Tryz.f81 n (dr:=So) (hT:=λm hm=>⟨.nil,ae4 m (H m hm),(Sp m (H m hm)),.nil,.nil⟩)
def WA (n:Nat)(H:∀m,m<n->nV m):=ajL.k TZp Tryz.f81 n (dr:=So) (hT:=λm hm=>⟨.nil,ae4 m (H m hm),(Sp m (H m hm)),.nil,.nil⟩)
def Ek (n:Nat)(H:∀m,m<n+1->nV m):aC TZp (UB (n+1)):=aL Tryz.f81 (dr:=So) (hT:=⟨.nil,ae4 n (H n (IT n)),(Sp n (H n (IT n))),(.cc (WA n (λk hk=>H k (adX hk))) (.cc (Wz n (λk hk=>H k (adX hk))) .nil)),.nil⟩)
def zy:∀n m,m<n->nV m:=uq (P:=nV) (eJ Tryz.f81) λk h=>Ek k h
def Kl (n:Nat):aC TZp (UB n):=(zy (n+1) n (IT n))
def K4 (n:Nat):cS TZp (C4 n):=ae4 n (zy (n+1) n (IT n))
def uC:pq (Sl->Sl->Int->M (Unit⊕Int)):=λG n a0 a1 a2=>if decide (0<=a2) then iX a0 a2 1 λx0=>iX a1 a2 1 λx1=>sh (dz (.int IntKind.u8) x0) λ(x2:Int)=>sh (dz (.int IntKind.u8) x1) λ(x3:Int)=>if !decide (x2=x3) then iX a0 a2 1 λx4=>iX a1 a2 1 λx5=>sh (dz (.int IntKind.u8) x4) λ(x6:Int)=>sh (dz (.int IntKind.u8) x5) λ(x7:Int)=>if decide (x6<x7) then AI (Sum.inr (-1)) else AI (Sum.inr 1) else G a0 a1 (i64.wrap (a2-1)) else AI (Sum.inl ())
def ql:=lp uC
theorem Dl (n:Nat):ql (n+1)=uC (ql n) n:=rfl
def uD (n:Nat)(a0 a1:Sl):M Int:=if !decide ((↑a0.len:Int)=(↑a1.len:Int)) then if decide ((↑a0.len:Int)<(↑a1.len:Int)) then AI (-1) else AI 1 else sh (ql n a0 a1 (i64.wrap ((↑a0.len:Int)-1))) (aK (λx0=>AI 0) (λx0=>AI x0))
abbrev aas (n:Nat):cA:=eN 238 [aU,aU] [av] (uD n)
abbrev ae5:=L2 [0,1,0,1,1] [(0,aU),(1,aU),(5,av)] [] [(4,av)] ([4,5]++rG 19 22) 0 .ret ql
def UC:=dR [(8,[0,1,2,4,5,6,3,7,8]),(9,[0,1,2,4,5,6,3,7,8])]
def Sq (n:Nat):=ae5.k TZp Tryz.f238 n (dr:=UC) (hT:=λm _=>.m1 (K4 m))
def IF (n:Nat):aC TZp (aas n):=aL Tryz.f238 (dr:=UC) (hT:=.m2 (K4 n) (.cc (Sq n) .nil))
def wy (n:Nat)(a0:Int):M Int:=if decide (a0<0) then AI (-1) else if decide (0<a0) then AI 1 else AI 0
abbrev aat (n:Nat):cA:=eN 264 [av] [av] (wy n)
def Hm (n:Nat):aC TZp (aat n):=aL Tryz.f264 (hT:=.m1 (K4 n))
def jW (n:Nat)(a0:Bool×Sl×Int)(a1:Int):M Int:=nW bB [.bool a0.1,aA a0.2.1,vi a0.2.2] λx0=>lS (ak x0) 1 λx1=>if decide (a1<(↑x1.len:Int)) then lS (ak x0) 1 λx2=>iX x2 a1 1 λx3=>sh (dz (.int IntKind.u8) x3) λ(x4:Int)=>AI x4 else AI 0
abbrev aau (n:Nat):cA:=eN 275 [.agg [.bool,.sl,.int .i64],av] [.one (.int .u8)] (jW n)
def oS (n:Nat):aC TZp (aau n):=aL Tryz.f275 (hT:=.m1 (K4 n))
def nD (n:Nat)(a0:θ):M Int:=sh (nn a0) λx0=>sh (nn a0) λx1=>sh (dz (.int IntKind.u64) x0) λ(x2:Int)=>sh (dz (.int IntKind.u64) x1) λ(x3:Int)=>sh (qT (decide (0<=13))) λx4=>sh (nn a0) λx5=>sN x5 [.int IntKind.u64 (IntKind.u64.wrap (↑(BitVec.ofInt 64 x2^^^BitVec.ofInt 64 (IntKind.u64.wrap (x3*2^13))).toNat:Int))] λx6=>sh (nn a0) λx7=>sh (nn a0) λx8=>sh (dz (.int IntKind.u64) x7) λ(x9:Int)=>sh (dz (.int IntKind.u64) x8) λ(cH:Int)=>sh (qT (decide (0<=7))) λx11=>sh (nn a0) λx12=>sN x12 [.int IntKind.u64 (IntKind.u64.wrap (↑(BitVec.ofInt 64 x9^^^BitVec.ofInt 64 (Int.fdiv cH (2^7))).toNat:Int))] λx13=>sh (nn a0) λx14=>sh (nn a0) λx15=>sh (dz (.int IntKind.u64) x14) λ(x16:Int)=>sh (dz (.int IntKind.u64) x15) λ(x17:Int)=>sh (qT (decide (0<=17))) λx18=>sh (nn a0) λx19=>sN x19 [.int IntKind.u64 (IntKind.u64.wrap (↑(BitVec.ofInt 64 x16^^^BitVec.ofInt 64 (IntKind.u64.wrap (x17*2^17))).toNat:Int))] λx20=>sh (nn a0) λx21=>sh (dz (.int IntKind.u64) x21) λ(x22:Int)=>AI x22
abbrev aav (n:Nat):cA:=eN 117 [GQ] [.one (.int .u64)] (nD n)
def ae6:=dR [(1,[0,1,3,4,2]++rG 5 5),(2,[0,1,3,4,2]++rG 5 5),(3,[0,1,3,4,2]++rG 5 5)]
def AE (n:Nat):aC TZp (aav n):=aL Tryz.f117 (dr:=ae6) (hT:=.m1 (K4 n))
def cJ:pq (Sl->Int->Int->M Unit):=λG n a0 a1 a2=>if decide (a1<a2) then iX a0 a2 1 λx0=>iX a0 a1 1 λx1=>eI x0 λx2=>eI x1 λx3=>iX a0 a1 1 λx4=>sN x4 [vi x2] λx5=>iX a0 a2 1 λx6=>sN x6 [vi x3] λx7=>G a0 (i64.wrap (a1+1)) (i64.wrap (a2-1)) else AI ()
def de:=lp cJ
def fV (n:Nat)(a0:Sl)(a1 a2:Int)(a3:ξ):M Unit:=sh (de n a0 a1 (i64.wrap (a2-1))) λx0=>AI ()
abbrev ahz (n:Nat):cA:=eN 92 [aU,av,av,vA] [] (fV n)
abbrev ajO:=L1 [0,1,1] [(0,aU),(8,av),(9,av)] [] ([8,9]++rG 13 21) 0 de
def aaw:=dR [(3,rG 0 7++[8,9,10,7]++rG 11 5)]
def WB (n:Nat):=ajO.k TZp Tryz.f92 n (dr:=aaw) (hT:=λm _=>.m1 (K4 m))
def tV (n:Nat):aC TZp (ahz n):=aL Tryz.f92 (dr:=aaw) (hT:=.m2 (K4 n) (.cc (WB n) .nil))
def yC (n:Nat)(a0:Sl×Int):M (θ):=nW ai [aA a0.1,vi a0.2] λx0=>sh (bX 8) λx1=>gL (ak x0) λx2=>lS (ak x0) 0 λx3=>sh (xm (some (x1+4)) aT [aI] (↑x3.len:Int) (↑x3.len:Int)) λx4=>sh (gG (some (x1+6)) jP [aA x2.1,vi x2.2,aA x4]) λx5=>AI (some (ak x5))
abbrev aax (n:Nat):cA:=eN 84 [.agg [.sl,.int .i64]] [GQ] (yC n)
def ajP:=dR [(1,[1,0]++rG 2 6)]
def Qn (n:Nat):aC TZp (aax n):=aL Tryz.f84 (dr:=ajP) (hT:=.m1 (K4 n))
def uE:pq (Sl->Sl->Int->Int->Sl->Int->Int->M Unit):=λG n a0 a1 a2 a3 a4 a5 a6=>if decide (a6<a5) then iX a4 a6 1 λx0=>eI x0 λx1=>iX a0 x1 1 λx2=>eI x2 λx3=>iX a0 x1 1 λx4=>sN x4 [vi (i64.wrap (x3+1))] λx5=>G a0 a1 a2 a3 a4 a5 (i64.wrap (a6+1)) else AI ()
def qm:=lp uE
theorem Dm (n:Nat):qm (n+1)=uE (qm n) n:=rfl
def uF:pq (Sl->Sl->Int->Int->M Unit):=λG n a0 a1 a2 a3=>if decide (a3<a2) then iX a1 a3 5 λx0=>nL x0 λx1=>nW ar [vi 0,.string (ofBytes []),.bool false,aI,aI] λx2=>sN (ak x2) [vi x1.1,.string x1.2.1,.bool x1.2.2.1,aA x1.2.2.2.1,aA x1.2.2.2.2] λx3=>lS (ak x2) 4 λx4=>sh (qm n a0 a1 a2 a3 x4 (↑x4.len:Int) 0) λx5=>G a0 a1 a2 (i64.wrap (a3+1)) else AI ()
def qn:=lp uF
theorem Dn (n:Nat):qn (n+1)=uF (qn n) n:=rfl
def xE (n:Nat)(a0:Sl×Int):M Sl:=nW ai [aA a0.1,vi a0.2] λx0=>lS (ak x0) 0 λx1=>sh (xm none an [vi 0] (↑x1.len:Int) (↑x1.len:Int)) λx2=>lI (ak x0) 1 λx3=>iX x2 x3 1 λx4=>eI x4 λx5=>iX x2 x3 1 λx6=>sN x6 [vi (i64.wrap (x5+1))] λx7=>lS (ak x0) 0 λx8=>sh (qn n x2 x8 (↑x8.len:Int) 0) λx9=>AI x2
abbrev ahA (n:Nat):cA:=eN 59 [.agg [.sl,.int .i64]] [aU] (xE n)
abbrev ajQ:=L1 (bL 87) [(3,aU),(20,aU),(21,av),(22,av)] [] ([5,7]++rG 22 19) 0 qn
abbrev ajR:=L1 (bL 22935) [(3,aU),(20,aU),(21,av),(22,av),(27,aU),(28,av),(29,av)] [] ([7]++rG 29 11) 2 qm
def WC (n:Nat):=ajR.k TZp Tryz.f59 n (hT:=λm _=>.m1 (K4 m))
def WD (n:Nat):=ajQ.k TZp Tryz.f59 n (hT:=λm _=>.m2 (K4 m) (.cc (WC m) .nil))
def IG (n:Nat):aC TZp (ahA n):=aL Tryz.f59 (hT:=.m2 (K4 n) (.cc (WD n) .nil))
def oA (n:Nat)(a0:θ):M Int:=sh (nn a0) λx0=>lS x0 1 λx1=>AI (↑x1.len:Int)
abbrev ahB (n:Nat):cA:=eN 16 [GQ] [av] (oA n)
def Bl (n:Nat):aC TZp (ahB n):=aL Tryz.f16 (hT:=.m1 (K4 n))
def lJ (n:Nat)(a0:θ):M ζ:=sh (nn a0) λx0=>sh (nn a0) λx1=>lS x0 1 λx2=>sh (H2 x2.a x2.len) λx3=>lS x1 1 λx4=>sh (aeb gH x3 (↑x4.len:Int)) λx5=>AI x5
abbrev ahC (n:Nat):cA:=eN 17 [GQ] [mV] (lJ n)
def ajS:=dR [(1,[0,1,2,5,6,7,3,4,8,9,10,11])]
def zg (n:Nat):aC TZp (ahC n):=aL Tryz.f17 (dr:=ajS) (hT:=.m1 (K4 n))
def Fs:pq (Int->Sl->Int->Int->M Unit):=λG n a0 a1 a2 a3=>if decide (a3<a2) then iX a1 a3 1 λx0=>eI x0 λx1=>iX a1 a3 1 λx2=>sN x2 [vi (i64.wrap (x1+a0))] λx3=>G a0 a1 a2 (i64.wrap (a3+1)) else AI ()
def AF:=lp Fs
def zZ (n:Nat)(a0:Sl)(a1:Int):M Sl:=sh (xm none an [vi 0] (↑a0.len:Int) (↑a0.len:Int)) λx0=>sh (Jv x0 a0 1) λx1=>sh (AF n a1 x0 (↑x0.len:Int) 0) λx2=>AI x0
abbrev ahD (n:Nat):cA:=eN 48 [aU,av] [aU] (zZ n)
abbrev ajT:=L1 (bL 87) [(1,av),(5,aU),(14,av),(15,av)] [] ([6]++rG 15 11) 0 AF
def WE (n:Nat):=ajT.k TZp Tryz.f48 n (hT:=λm _=>.m1 (K4 m))
def Hn (n:Nat):aC TZp (ahD n):=aL Tryz.f48 (hT:=.m2 (K4 n) (.cc (WE n) .nil))
def Bm:pq (ζ->Int->M (Unit⊕Bool)):=λG n a0 a1=>if decide (a1<(↑a0.size:Int)) then sh (qc a0 a1) λx0=>if decide ((↑x0.toNat:Int)<97) then if decide ((↑x0.toNat:Int)<65) then if decide ((↑x0.toNat:Int)<48) then if !decide ((↑x0.toNat:Int)=95) then if !decide ((↑x0.toNat:Int)=45) then if !decide ((↑x0.toNat:Int)=46) then if !decide ((↑x0.toNat:Int)=58) then AI (Sum.inr false) else G a0 (i64.wrap (a1+1)) else G a0 (i64.wrap (a1+1)) else G a0 (i64.wrap (a1+1)) else G a0 (i64.wrap (a1+1)) else if decide (57<(↑x0.toNat:Int)) then if !decide ((↑x0.toNat:Int)=95) then if !decide ((↑x0.toNat:Int)=45) then if !decide ((↑x0.toNat:Int)=46) then if !decide ((↑x0.toNat:Int)=58) then AI (Sum.inr false) else G a0 (i64.wrap (a1+1)) else G a0 (i64.wrap (a1+1)) else G a0 (i64.wrap (a1+1)) else G a0 (i64.wrap (a1+1)) else G a0 (i64.wrap (a1+1)) else if decide (90<(↑x0.toNat:Int)) then if decide ((↑x0.toNat:Int)<48) then if !decide ((↑x0.toNat:Int)=95) then if !decide ((↑x0.toNat:Int)=45) then if !decide ((↑x0.toNat:Int)=46) then if !decide ((↑x0.toNat:Int)=58) then AI (Sum.inr false) else G a0 (i64.wrap (a1+1)) else G a0 (i64.wrap (a1+1)) else G a0 (i64.wrap (a1+1)) else G a0 (i64.wrap (a1+1)) else if decide (57<(↑x0.toNat:Int)) then if !decide ((↑x0.toNat:Int)=95) then if !decide ((↑x0.toNat:Int)=45) then if !decide ((↑x0.toNat:Int)=46) then if !decide ((↑x0.toNat:Int)=58) then AI (Sum.inr false) else G a0 (i64.wrap (a1+1)) else G a0 (i64.wrap (a1+1)) else G a0 (i64.wrap (a1+1)) else G a0 (i64.wrap (a1+1)) else G a0 (i64.wrap (a1+1)) else G a0 (i64.wrap (a1+1)) else if decide (122<(↑x0.toNat:Int)) then if decide ((↑x0.toNat:Int)<65) then if decide ((↑x0.toNat:Int)<48) then if !decide ((↑x0.toNat:Int)=95) then if !decide ((↑x0.toNat:Int)=45) then if !decide ((↑x0.toNat:Int)=46) then if !decide ((↑x0.toNat:Int)=58) then AI (Sum.inr false) else G a0 (i64.wrap (a1+1)) else G a0 (i64.wrap (a1+1)) else G a0 (i64.wrap (a1+1)) else G a0 (i64.wrap (a1+1)) else if decide (57<(↑x0.toNat:Int)) then if !decide ((↑x0.toNat:Int)=95) then if !decide ((↑x0.toNat:Int)=45) then if !decide ((↑x0.toNat:Int)=46) then if !decide ((↑x0.toNat:Int)=58) then AI (Sum.inr false) else G a0 (i64.wrap (a1+1)) else G a0 (i64.wrap (a1+1)) else G a0 (i64.wrap (a1+1)) else G a0 (i64.wrap (a1+1)) else G a0 (i64.wrap (a1+1)) else if decide (90<(↑x0.toNat:Int)) then if decide ((↑x0.toNat:Int)<48) then if !decide ((↑x0.toNat:Int)=95) then if !decide ((↑x0.toNat:Int)=45) then if !decide ((↑x0.toNat:Int)=46) then if !decide ((↑x0.toNat:Int)=58) then AI (Sum.inr false) else G a0 (i64.wrap (a1+1)) else G a0 (i64.wrap (a1+1)) else G a0 (i64.wrap (a1+1)) else G a0 (i64.wrap (a1+1)) else if decide (57<(↑x0.toNat:Int)) then if !decide ((↑x0.toNat:Int)=95) then if !decide ((↑x0.toNat:Int)=45) then if !decide ((↑x0.toNat:Int)=46) then if !decide ((↑x0.toNat:Int)=58) then AI (Sum.inr false) else G a0 (i64.wrap (a1+1)) else G a0 (i64.wrap (a1+1)) else G a0 (i64.wrap (a1+1)) else G a0 (i64.wrap (a1+1)) else G a0 (i64.wrap (a1+1)) else G a0 (i64.wrap (a1+1)) else G a0 (i64.wrap (a1+1)) else AI (Sum.inl ())
def wM:=lp Bm
def zA (n:Nat)(a0:ζ):M Bool:=sh (wM n a0 0) (aK (λx0=>if decide (1<=(↑a0.size:Int)) then AI (decide ((↑a0.size:Int)<=64)) else AI false) (λx0=>AI x0))
abbrev aay (n:Nat):cA:=eN 100 [mV] [jd] (zA n)
abbrev ae7:=L2 [0,1,0,1] [(0,mV),(3,av)] [] [(2,jd)] (rG 2 50) 0 .ret wM
def Sr (n:Nat):=ae7.k TZp Tryz.f100 n (hT:=λm _=>.m1 (K4 m))
def Dp (n:Nat):aC TZp (aay n):=aL Tryz.f100 (hT:=.m2 (K4 n) (.cc (Sr n) .nil))
def oT:pq (ζ->Int->M (Unit⊕Bool)):=λG n a0 a1=>if decide (a1<(↑a0.size:Int)) then sh (qc a0 a1) λx0=>if decide ((↑x0.toNat:Int)<48) then AI (Sum.inr false) else sh (qc a0 a1) λx1=>if decide (57<(↑x1.toNat:Int)) then AI (Sum.inr false) else G a0 (i64.wrap (a1+1)) else AI (Sum.inl ())
def fk:=lp oT
theorem yD (n:Nat):fk (n+1)=oT (fk n) n:=rfl
def gF (n:Nat)(a0:ζ)(a1:Int):M Bool:=if decide (a1=(↑a0.size:Int)) then AI false else if decide (400<i64.wrap ((↑a0.size:Int)-a1)) then AI false else sh (qc a0 a1) λx0=>if decide ((↑x0.toNat:Int)=48) then if decide (1<(↑a0.size:Int)) then AI false else sh (fk n a0 a1) (aK (λx1=>AI true) (λx1=>AI x1)) else sh (fk n a0 a1) (aK (λx1=>AI true) (λx1=>AI x1))
def pN (n:Nat)(a0:ζ):M Bool:=if decide (0<(↑a0.size:Int)) then sh (qc a0 0) λx0=>if decide ((↑x0.toNat:Int)=45) then gF n a0 1 else gF n a0 0 else gF n a0 0
abbrev aaz (n:Nat):cA:=eN 121 [mV] [jd] (pN n)
abbrev ae8:=L2 (bL 175) [(0,mV),(4,av)] [] [(2,jd)] ([2,4]++rG 36 16) 0 .ret fk
abbrev ae9 (n:Nat):List (gO Bool):=[jN [0,0,1,1,1] [.code [1,0,1,1,1],.code [1,1,1,1]] [(0,mV),(3,av)] (gF n)]
def Ss (n:Nat):=ae8.k TZp Tryz.f121 n (hT:=λm _=>.m1 (K4 m))
def Cj (n:Nat):aC TZp (aaz n):=aL Tryz.f121 (js:=ae9 n) (hT:=⟨.nil,K4 n,.nil,(.cc (Ss n) .nil),(.cc .nil)⟩)
def nX:pq (Int->Int->Int->Int->Int->Int->M (Int×Int)):=λG n a0 a1 a2 a3 a4 a5=>if decide (a5<a0) then G a0 a1 a2 (i64.wrap (64*a3)) (i64.wrap (i64.wrap (64*a4)+63)) (i64.wrap (a5+1)) else AI (a3,a4)
def iM:=lp nX
theorem xF (n:Nat):iM (n+1)=nX (iM n) n:=rfl
abbrev sS:=Sl->Int->Int->Int->Int->Int->M (Int⊕(Int×Int))
def lK (G:sS)(n:Nat)(a0:Sl)(a1 a2 a3 a4 a5:Int):M (Int⊕(Int×Int)):=iX a0 a5 1 λx0=>sh (dz (.int IntKind.u8) x0) λ(x1:Int)=>G a0 a1 (i64.wrap (i64.wrap (i64.wrap (64*a2)+i64.wrap x1)-128)) a3 a4 (i64.wrap (a5+1))
def jR:pq (sS):=λG n a0 a1 a2 a3 a4 a5=>if decide (a5<(↑a0.len:Int)) then iX a0 a5 1 λx0=>sh (dz (.int IntKind.u8) x0) λ(x1:Int)=>if decide (x1<128) then AI (Sum.inr (0,0)) else iX a0 a5 1 λx2=>sh (dz (.int IntKind.u8) x2) λ(x3:Int)=>if decide (191<x3) then AI (Sum.inr (0,0)) else lK G n a0 a1 a2 a3 a4 a5 else AI (Sum.inl a2)
def fW:=lp jR
theorem qX (n:Nat):fW (n+1)=jR (fW n) n:=rfl
def zh (n:Nat):=lK (fW n) n
def eL (n:Nat)(a0:Sl)(a1 a2 a3 a4:Int):M (Int×Int):=if decide (a1<(↑a0.len:Int)) then AI (0,0) else sh (fW n a0 a1 a2 a3 a4 1) (aK (λx0=>sh (iM n a1 a3 a4 x0 x0 (↑a0.len:Int)) λx1=>if decide (x1.2<a3) then AI (0,0) else if decide (a4<x1.1) then AI (0,0) else if decide (55296<=x1.1) then if decide (x1.2<=57343) then AI (0,0) else AI (x1.1,a1) else AI (x1.1,a1)) (λx0=>AI (x0.1,x0.2)))
def iN (n:Nat)(a0:Sl)(a1 a2 a3 a4 a5:Int):M (Int×Int):=if decide (240<=a1) then if decide (a1<248) then eL n a0 4 (i64.wrap (a1-240)) 65536 1114111 else eL n a0 a2 a3 a4 a5 else eL n a0 a2 a3 a4 a5
def iO (n:Nat)(a0:Sl)(a1 a2 a3 a4 a5:Int):M (Int×Int):=if decide (224<=a1) then if decide (a1<240) then iN n a0 a1 3 (i64.wrap (a1-224)) 2048 65535 else iN n a0 a1 a2 a3 a4 a5 else iN n a0 a1 a2 a3 a4 a5
def iP (n:Nat)(a0:Sl)(a1 a2 a3 a4 a5:Int):M (Int×Int):=if decide (192<=a1) then if decide (a1<224) then iO n a0 a1 2 (i64.wrap (a1-192)) 128 2047 else iO n a0 a1 a2 a3 a4 a5 else iO n a0 a1 a2 a3 a4 a5
def k7 (n:Nat)(a0:Sl):M (Int×Int):=iX a0 0 1 λx0=>sh (dz (.int IntKind.u8) x0) λ(x1:Int)=>if decide (i64.wrap x1<128) then if decide ((↑a0.len:Int)=1) then AI (i64.wrap x1,1) else iP n a0 (i64.wrap x1) 0 0 0 0 else iP n a0 (i64.wrap x1) 0 0 0 0
abbrev aaA (n:Nat):cA:=eN 243 [aU] [av,av] (k7 n)
abbrev afa:=L2 (bL 2815) [(0,aU),(5,av),(6,av),(7,av),(8,av),(9,av)] [(6,av)] [(2,av),(3,av)] ([2,3,6,9]++rG 53 27) 0 .ret fW
abbrev afb:=L1 (bL 11263) [(5,av),(7,av),(8,av),(10,av),(11,av),(12,av)] [(10,av),(11,av)] ([10,11,12]++rG 84 10) 2 iM
abbrev Su (n:Nat):List (gO (Int⊕(Int×Int))):=[jN (bL 103167) [.au 1,.code (bL 29439)] [(0,aU),(5,av),(6,av),(7,av),(8,av),(9,av)] (zh n)]
abbrev afc (n:Nat):List (gO (Int×Int)):=[jN (bL 79) [.code (bL 111),.code [1,1,1,1,1]] [(0,aU),(4,av),(5,av),(6,av),(7,av),(8,av)] (iP n), jN (bL 159) [.code (bL 223),.code (bL 127)] [(0,aU),(4,av),(5,av),(6,av),(7,av),(8,av)] (iO n), jN (bL 319) [.code (bL 447),.code (bL 255)] [(0,aU),(4,av),(5,av),(6,av),(7,av),(8,av)] (iN n), jN (bL 639) [.code (bL 895),.code (bL 511)] [(0,aU),(5,av),(6,av),(7,av),(8,av)] (eL n)]
def Sv (n:Nat):=afb.k TZp Tryz.f243 n (hT:=λm _=>.m1 (K4 m))
def Sw (n:Nat):=afa.k TZp Tryz.f243 n (jt:=Su) (hT:=λm _=>.m3 (K4 m) (.cc .nil))
def Bn (n:Nat):aC TZp (aaA n):=aL Tryz.f243 (js:=afc n) (hT:=⟨.nil,K4 n,.nil,(.cc (Sw n) (.cc (Sv n) .nil)),(.cc (.cc (.cc (.cc .nil))))⟩)
def oU:pq (Addr->Sl->Sl->Int->Sl->Int->M Sl):=λG n a0 a1 a2 a3 a4 a5=>if decide (a5<(↑a4.len:Int)) then iX a4 a5 1 λx0=>eI x0 λx1=>iX a1 x1 1 λx2=>eB x2 λx3=>if !x3 then iX a4 a5 1 λx4=>eI x4 λx5=>iX a1 x5 1 λx6=>sN x6 [.bool true] λx7=>iX a4 a5 1 λx8=>eI x8 λx9=>sh (app false a2 1 an 1 [vi x9]) λcH=>G a0 a1 cH a3 a4 (i64.wrap (a5+1)) else G a0 a1 a2 a3 a4 (i64.wrap (a5+1)) else AI a2
def jo:=lp oU
theorem yE (n:Nat):jo (n+1)=oU (jo n) n:=rfl
def oV:pq (Addr->Sl->Sl->Int->M Unit):=λG n a0 a1 a2 a3=>if decide (a3<(↑a2.len:Int)) then sh (bX 10) λx0=>iX a2 a3 1 λx1=>lS a0 0 λx2=>eI x1 λx3=>iX x2 x3 5 λx4=>nL x4 λx5=>sh (gG (some (x0+8)) ar [vi 0,.string (ofBytes []),.bool false,aI,aI]) λx6=>sN (ak x6) [vi x5.1,.string x5.2.1,.bool x5.2.2.1,aA x5.2.2.2.1,aA x5.2.2.2.2] λx7=>sh (bX 8) λx8=>lS (ak x6) 3 λx9=>lS (ak x6) 4 λcH=>sh (gG (some (x8+0)) an []) λx11=>sh (EU x9 1) λx12=>sh (app (some (x8+3)).isSome { a:=some (ak x11),len:=0,cap:=1 } 1 3 x9.len x12) λx13=>sh (EU cH 1) λx14=>sh (app (some (x8+6)).isSome x13 1 3 cH.len x14) λx15=>sh (jo n a0 a1 a2 a3 x15 0) λx16=>G a0 a1 x16 (i64.wrap (a3+1)) else AI ()
def jq:=lp oV
theorem yF (n:Nat):jq (n+1)=oV (jq n) n:=rfl
def jI (n:Nat)(a0:Sl×Int)(a1:Int):M Sl:=nW ai [aA a0.1,vi a0.2] λx0=>lS (ak x0) 0 λx1=>sh (xm none e9 [.bool false] (↑x1.len:Int) (↑x1.len:Int)) λx2=>iX x2 a1 1 λx3=>sN x3 [.bool true] λx4=>nW an [vi a1] λx5=>sh (jq n (ak x0) x2 { a:=some (ak x5),len:=1,cap:=2 } 0) λx6=>AI x2
abbrev ahE (n:Nat):cA:=eN 67 [.agg [.sl,.int .i64],av] [aU] (jI n)
abbrev ajU:=L1 (bL 175) [(2,aB),(5,aU),(6,aU),(7,av)] [] (rG 6 5++rG 20 48) 0 jq
abbrev ajV:=L1 (bL 47407) [(2,aB),(5,aU),(6,aU),(7,av),(9,aU),(10,av)] [(6,aU)] ([6,10]++rG 41 27) 2 jo
def Sx:=dR [(7,[0,2,3,4,1]++rG 5 5),(8,[1,4,2,5,0,3,6,7])]
def WG (n:Nat):=ajV.k TZp Tryz.f67 n (dr:=Sx) (hT:=λm _=>.m1 (K4 m))
def WH (n:Nat):=ajU.k TZp Tryz.f67 n (dr:=Sx) (hT:=λm _=>.m2 (K4 m) (.cc (WG m) .nil))
def Cm (n:Nat):aC TZp (ahE n):=aL Tryz.f67 (dr:=Sx) (hT:=.m2 (K4 n) (.cc (WH n) .nil))
def nY:pq (Addr->Sl->Int->Int->M Unit):=λG n a0 a1 a2 a3=>lS a0 0 λx0=>iX x0 a2 5 λx1=>lS x1 3 λx2=>if decide (a3<(↑x2.len:Int)) then lS a0 0 λx3=>iX x3 a2 5 λx4=>lS x4 3 λx5=>iX x5 a3 1 λx6=>eI x6 λx7=>iX a1 x7 1 λx8=>eI x8 λx9=>iX a1 x7 1 λcH=>sN cH [vi (i64.wrap (x9+1))] λx11=>G a0 a1 a2 (i64.wrap (a3+1)) else AI ()
def iQ:=lp nY
theorem xG (n:Nat):iQ (n+1)=nY (iQ n) n:=rfl
def nZ:pq (Addr->Sl->Int->Int->M Unit):=λG n a0 a1 a2 a3=>lS a0 0 λx0=>iX x0 a2 5 λx1=>lS x1 4 λx2=>if decide (a3<(↑x2.len:Int)) then lS a0 0 λx3=>iX x3 a2 5 λx4=>lS x4 4 λx5=>iX x5 a3 1 λx6=>eI x6 λx7=>iX a1 x7 1 λx8=>eI x8 λx9=>iX a1 x7 1 λcH=>sN cH [vi (i64.wrap (x9+1))] λx11=>G a0 a1 a2 (i64.wrap (a3+1)) else AI ()
def iR:=lp nZ
theorem xH (n:Nat):iR (n+1)=nZ (iR n) n:=rfl
def n7:pq (Addr->Sl->Int->M Unit):=λG n a0 a1 a2=>lS a0 0 λx0=>if decide (a2<(↑x0.len:Int)) then sh (iQ n a0 a1 a2 0) λx1=>sh (iR n a0 a1 a2 0) λx2=>G a0 a1 (i64.wrap (a2+1)) else AI ()
def iS:=lp n7
theorem xI (n:Nat):iS (n+1)=n7 (iS n) n:=rfl
def oB (n:Nat)(a0:Sl×Int):M Sl:=nW ai [aA a0.1,vi a0.2] λx0=>lS (ak x0) 0 λx1=>sh (xm none an [vi 0] (↑x1.len:Int) (↑x1.len:Int)) λx2=>lI (ak x0) 1 λx3=>iX x2 x3 1 λx4=>eI x4 λx5=>iX x2 x3 1 λx6=>sN x6 [vi (i64.wrap (x5+1))] λx7=>sh (iS n (ak x0) x2 0) λx8=>AI x2
abbrev ahF (n:Nat):cA:=eN 68 [.agg [.sl,.int .i64]] [aU] (oB n)
abbrev ajW:=L1 (bL 87) [(1,aB),(3,aU),(4,av)] [] ([4,5,6]++rG 18 57) 0 iS
abbrev ajX:=L1 (bL 10391) [(1,aB),(3,aU),(4,av),(5,av)] [] ([5]++rG 25 25) 2 iQ
abbrev ajY:=L1 (bL 11415) [(1,aB),(3,aU),(4,av),(6,av)] [] ([6]++rG 50 25) 4 iR
def WI (n:Nat):=ajX.k TZp Tryz.f68 n (hT:=λm _=>.m1 (K4 m))
def WJ (n:Nat):=ajY.k TZp Tryz.f68 n (hT:=λm _=>.m1 (K4 m))
def WK (n:Nat):=ajW.k TZp Tryz.f68 n (hT:=λm _=>.m2 (K4 m) (.cc (WI m) (.cc (WJ m) .nil)))
def Bo (n:Nat):aC TZp (ahF n):=aL Tryz.f68 (hT:=.m2 (K4 n) (.cc (WK n) .nil))
structure hY where
 gC:Int->M ζ
def sC (G:hY)(n:Nat)(a0:Int):M ζ:=if decide (a0<10) then sh (jG (ofBytes [48,49,50,51,52,53,54,55,56,57]) a0 (i64.wrap (a0+1))) λx0=>AI x0 else sh (qT (decide (10≠0))) λx0=>sh (qT (decide (10≠0))) λx1=>sh (qT (decide (10≠0))) λx2=>sh (jG (ofBytes [48,49,50,51,52,53,54,55,56,57]) (a0.tmod 10) (i64.wrap (a0.tmod 10+1))) λx3=>sh (G.gC (i64.wrap (a0.tdiv 10))) λx4=>sh (mG x4 x3) λx5=>AI x5
def hY.at:Nat->hY|0=>⟨λ_=>AS⟩|n+1=>⟨sC (hY.at n) n⟩
def gC (n:Nat):=(hY.at n).gC
abbrev Sy (n:Nat):cA:=eN 102 [av] [mV] (gC n)
abbrev C5 (n:Nat):List cA:=Sy n::C4 n
def afd:=dR [(3,[0,1]++rG 3 6++[2,9,10])]
def oC (n:Nat):Prop:=aC TZp (Sy n)
def aoi (n:Nat)(H:oC n):cS TZp (C5 n):=.cons H (K4 n)
def zi (n:Nat)(H:∀m,m<n+1->oC m):aC TZp (Sy (n+1)):=aL Tryz.f102 (dr:=afd) (hT:=.m1 (aoi n (H n (IT n))))
def AG:∀n m,m<n->oC m:=uq (P:=oC) (eJ Tryz.f102) λk h=>zi k h
def K5 (n:Nat):cS TZp (C5 n):=aoi n (AG (n+1) n (IT n))
structure aD where
 eg:Sl->Sl->Int->Addr->Int->Int->Int->Sl->Int->M Int
 bZ:Sl->Sl->Int->Addr->Int->Int->Int->M (Int×Int)
 ia:(Sl×Int)->Sl->Sl->Int->M Int
def mO (G:aD)(n:Nat)(a0 a1:Sl)(a2:Int)(a3:Addr)(a4 a5 a6:Int)(a7:Sl)(a8:Int):M Int:=if decide (a8<(↑a7.len:Int)) then iX a7 a8 1 λx0=>eI x0 λx1=>iX a0 x1 1 λx2=>eS x2 λx3=>iX x3 a2 1 λx4=>eB x4 λx5=>if !x5 then iX a7 a8 1 λx6=>gL a3 λx7=>eI x6 λx8=>sh (G.ia (x7.1,x7.2) a0 a1 x8) λx9=>G.eg a0 a1 a2 a3 a4 (if a5<x9 then x9 else a5) a6 a7 (i64.wrap (a8+1)) else G.eg a0 a1 a2 a3 a4 a5 a6 a7 (i64.wrap (a8+1)) else AI a5
def kK (G:aD)(n:Nat)(a0 a1:Sl)(a2:Int)(a3:Addr)(a4 a5 a6:Int):M (Int×Int):=lS a3 0 λx0=>iX x0 a6 5 λx1=>nL x1 λx2=>nW ar [vi 0,.string (ofBytes []),.bool false,aI,aI] λx3=>sN (ak x3) [vi x2.1,.string x2.2.1,.bool x2.2.2.1,aA x2.2.2.2.1,aA x2.2.2.2.2] λx4=>sh (bX 8) λx5=>lS (ak x3) 3 λx6=>lS (ak x3) 4 λx7=>sh (gG (some (x5+0)) an []) λx8=>sh (EU x6 1) λx9=>sh (app (some (x5+3)).isSome { a:=some (ak x8),len:=0,cap:=1 } 1 3 x6.len x9) λcH=>sh (EU x7 1) λx11=>sh (app (some (x5+6)).isSome cH 1 3 x7.len x11) λx12=>sh (G.eg a0 a1 a2 a3 (i64.wrap (a4+1)) a5 a6 x12 0) λx13=>G.bZ a0 a1 a2 a3 (i64.wrap (a4+1)) x13 (i64.wrap (a6+1))
def mP (G:aD)(n:Nat)(a0 a1:Sl)(a2:Int)(a3:Addr)(a4 a5 a6:Int):M (Int×Int):=lS a3 0 λx0=>if decide (a6<(↑x0.len:Int)) then iX a0 a2 1 λx1=>eS x1 λx2=>iX x2 a6 1 λx3=>eB x3 λx4=>if !x4 then G.bZ a0 a1 a2 a3 a4 a5 (i64.wrap (a6+1)) else iX a0 a6 1 λx5=>eS x5 λx6=>iX x6 a2 1 λx7=>eB x7 λx8=>if !x8 then G.bZ a0 a1 a2 a3 a4 a5 (i64.wrap (a6+1)) else kK G n a0 a1 a2 a3 a4 a5 a6 else AI (a4,a5)
def pO (G:aD)(n:Nat)(a0:Sl×Int)(a1 a2:Sl)(a3:Int):M Int:=nW ai [aA a0.1,vi a0.2] λx0=>iX a2 a3 1 λx1=>eI x1 λx2=>if decide (0<x2) then iX a2 a3 1 λx3=>eI x3 λx4=>AI x4 else sh (G.bZ a1 a2 a3 (ak x0) 0 0 0) λx3=>iX a2 a3 1 λx4=>sN x4 [vi (i64.wrap (x3.1+x3.2))] λx5=>iX a2 a3 1 λx6=>eI x6 λx7=>AI x7
def aD.at:Nat->aD|0=>⟨λ_ _ _ _ _ _ _ _ _=>AS,λ_ _ _ _ _ _ _=>AS,λ_ _ _ _=>AS⟩|n+1=>⟨mO (aD.at n) n,mP (aD.at n) n,pO (aD.at n) n⟩
def eg (n:Nat):=(aD.at n).eg
def bZ (n:Nat):=(aD.at n).bZ
def ia (n:Nat):=(aD.at n).ia
def yG (n:Nat):=kK (aD.at n) n
abbrev aaB (n:Nat):cA:=eN 71 [.agg [.sl,.int .i64],aU,aU,av] [av] (ia n)
abbrev ajZ:=L1 (bL 87) [(1,aU),(2,aU),(3,av),(4,aB),(9,av),(10,av),(11,av)] [(9,av),(10,av)] (rG 9 6++rG 24 66) 0 bZ
abbrev aj0:=L1 (bL 97431) [(1,aU),(2,aU),(3,av),(4,aB),(9,av),(10,av),(11,av),(13,aU),(14,av)] [(10,av)] ([10,14]++rG 63 27) 2 eg
abbrev C6 (n:Nat):List cA:=aaB n::C5 n
def Sz:=dR [(10,[1,4,2,5,0,3,6,7]),(15,[0]++rG 2 5++[1,7,8,9,10])]
abbrev WL (n:Nat):List (gO (Int×Int)):=[jN (bL 5271) [.code (bL 7319),.au 1,.code (bL 919)] [(1,aU),(2,aU),(3,av),(4,aB),(9,av),(10,av),(11,av)] (yG n)]
def fX (n:Nat):Prop:=aC TZp (aaB n)
def afe (n:Nat)(H:fX n):cS TZp (C6 n):=.cons H (K5 n)
def WM (n:Nat)(H:∀m,m<n->fX m):=aj0.k TZp Tryz.f71 n (dr:=Sz) (hT:=λm hm=>.m1 (afe m (H m hm)))
def WN (n:Nat)(H:∀m,m<n->fX m):=ajZ.k TZp Tryz.f71 n (dr:=Sz) (jt:=WL) (hT:=λm hm=>⟨.nil,afe m (H m hm),.nil,(.cc (WM m (λk hk=>H k (anE hk hm))) .nil),(.cc .nil)⟩)
def w8 (n:Nat)(H:∀m,m<n+1->fX m):aC TZp (aaB (n+1)):=aL Tryz.f71 (dr:=Sz) (hT:=.m2 (afe n (H n (IT n))) (.cc (WN n (λk hk=>H k (adX hk))) .nil))
def yH:∀n m,m<n->fX m:=uq (P:=fX) (eJ Tryz.f71) λk h=>w8 k h
def K6 (n:Nat):cS TZp (C6 n):=afe n (yH (n+1) n (IT n))
def pP:pq (Sl->Sl->Int->M (Unit⊕Bool)):=λG n a0 a1 a2=>if decide (a2<(↑a0.len:Int)) then iX a0 a2 1 λx0=>iX a1 a2 1 λx1=>eI x0 λx2=>eI x1 λx3=>if !decide (x2=x3) then AI (Sum.inr false) else G a0 a1 (i64.wrap (a2+1)) else AI (Sum.inl ())
def jX:=lp pP
theorem zj (n:Nat):jX (n+1)=pP (jX n) n:=rfl
def nE (n:Nat)(a0 a1:Sl):M Bool:=if !decide ((↑a0.len:Int)=(↑a1.len:Int)) then AI false else sh (jX n a0 a1 0) (aK (λx0=>AI true) (λx0=>AI x0))
abbrev ahG (n:Nat):cA:=eN 45 [aU,aU] [jd] (nE n)
abbrev aj1:=L2 [0,1,0,1,1] [(0,aU),(1,aU),(5,av)] [] [(4,jd)] ([4,5]++rG 11 15) 0 .ret jX
def aaC:=dR [(6,[0,1,2,4,5,6,3,7,8])]
def WO (n:Nat):=aj1.k TZp Tryz.f45 n (dr:=aaC) (hT:=λm _=>.m1 (K6 m))
def Dq (n:Nat):aC TZp (ahG n):=aL Tryz.f45 (dr:=aaC) (hT:=.m2 (K6 n) (.cc (WO n) .nil))
def pQ (n:Nat)(a0 a1:ζ):M Int:=if LC a0 a1 then AI (-1) else if !(LC a0 a1||oG a0 a1) then AI 1 else AI 0
abbrev aaD (n:Nat):cA:=eN 131 [mV,mV] [av] (pQ n)
def Cn (n:Nat):aC TZp (aaD n):=aL Tryz.f131 (hT:=.m1 (K6 n))
def vL (n:Nat)(x:ξ)(a0:Int):M Unit:=if tU qV x then sh (sB [aB,aB,aB] x) λ(c:Addr×Addr×Addr)=>kI n a0 c.1 c.2.1 c.2.2 else AS
def sT (n:Nat)(a0:Sl×Int)(a1:Int)(a2:Sl):M Unit:=nW ai [aA a0.1,vi a0.2] λx0=>nW mW [aA a2] λx1=>nW vH [Value.nilFunc] λx2=>sN (ak x2) [.func (Fn.func qV) #[] #[.pointer (some (ak x1)),.pointer (some (ak x0)),.pointer (some (ak x2))]] λx3=>sh (dz .raw (ak x2)) λ(x4:ξ)=>sh (vL n x4 a1) λx5=>AI ()
abbrev ahH (n:Nat):cA:=eN 26 [.agg [.sl,.int .i64],av,aU] [] (sT n)
abbrev aj2 (n:Nat):List tB:=[dN 8 [av] [] (vL n)]
def aj3 (n:Nat):sP TZp (aj2 n):=.cons (dA (.cons (lA [aB,aB,aB] (Fk n)) .nil)) .nil
def Ho (n:Nat):aC TZp (ahH n):=aL Tryz.f26 (hT:=⟨.nil,K6 n,(aj3 n),.nil,.nil⟩)
abbrev C7 (n:Nat):List cA:=ahw n::aaf n::aag n::aah n::aai n::aaj n::aak n::aal n::aam n::aan n::aao n::ahx n::ahy n::aas n::aat n::aau n::aav n::ahz n::aax n::ahA n::ahB n::ahC n::ahD n::aay n::aaz n::aaA n::ahE n::ahF n::ahG n::aaD n::ahH n::C6 n
def K7 (n:Nat):cS TZp (C7 n):=.cons (Hi n) (.cons (Iy n) (.cons (Iz n) (.cons (Hj n) (.cons (Dg n) (.cons (Eh n) (.cons (Ch n) (.cons (LW n) (.cons (zw n) (.cons (LX n) (.cons (Kj n) (.cons (LY n) (.cons (IA n) (.cons (IF n) (.cons (Hm n) (.cons (oS n) (.cons (AE n) (.cons (tV n) (.cons (Qn n) (.cons (IG n) (.cons (Bl n) (.cons (zg n) (.cons (Hn n) (.cons (Dp n) (.cons (Cj n) (.cons (Bn n) (.cons (Cm n) (.cons (Bo n) (.cons (Dq n) (.cons (Cn n) (.cons (Ho n) (K6 n)))))))))))))))))))))))))))))))
abbrev zB:=Addr->Addr->ζ->Int->Int->M (Unit⊕Bool)
def rq (G:zB)(n:Nat)(a0 a1:Addr)(a2:ζ)(a3 a4 a5:Int):M (Unit⊕Bool):=sh (qc a2 a3) λx0=>lS a1 1 λx1=>iX x1 (i64.wrap (i64.wrap ((↑a2.size:Int)-1)-a3)) 1 λx2=>sN x2 [.int IntKind.u8 (IntKind.u8.wrap ((↑x0.toNat:Int)-48))] λx3=>G a0 a1 a2 a4 (i64.wrap (a5+1))
def uG:pq (zB):=λG n a0 a1 a2 a3 a4=>if decide (a4<a3) then sh (qc a2 a4) λx0=>if decide ((↑x0.toNat:Int)<48) then sN a0 [.bool false,aI] λx1=>AI (Sum.inr false) else sh (qc a2 a4) λx1=>if decide (57<(↑x1.toNat:Int)) then sN a0 [.bool false,aI] λx2=>AI (Sum.inr false) else rq G n a0 a1 a2 a4 a3 a4 else AI (Sum.inl ())
def mY:=lp uG
theorem Dr (n:Nat):mY (n+1)=uG (mY n) n:=rfl
def Ft (n:Nat):=rq (mY n) n
def mZ (n:Nat)(a0 a1:Addr)(a2:ζ):M ((Bool×Sl)×Bool):=sh (xm none gH [.int IntKind.u8 0] (↑a2.size:Int) (↑a2.size:Int)) λx0=>sN (a1.plus 1) [aA x0] λx1=>sh (mY n a0 a1 a2 (↑a2.size:Int) 0) (aK (λx2=>lS a1 1 λx3=>sh (Be n x3) λx4=>sN (a1.plus 1) [aA x4] λx5=>sh (cF [.bool,.sl] a1) λ(x6:Bool×Sl)=>sN a0 [.bool x6.1,aA x6.2] λx7=>sh (cF [.bool,.sl] a0) λ(x8:Bool×Sl)=>AI ((x8.1,x8.2),true)) (λx2=>sh (cF [.bool,.sl] a0) λ(x3:Bool×Sl)=>AI ((x3.1,x3.2),x2)))
def kM (n:Nat)(a0:ζ)(a1 a2:Addr)(a3:ζ):M ((Bool×Sl)×Bool):=if decide ((↑a3.size:Int)=0) then sN a1 [.bool false,aI] λx0=>sh (cF [.bool,.sl] a1) λ(x1:Bool×Sl)=>AI ((x1.1,x1.2),false) else if decide (400<(↑a3.size:Int)) then sN a1 [.bool false,aI] λx0=>sh (cF [.bool,.sl] a1) λ(x1:Bool×Sl)=>AI ((x1.1,x1.2),false) else sh (qc a3 0) λx0=>if decide ((↑x0.toNat:Int)=48) then if decide (1<(↑a0.size:Int)) then sN a1 [.bool false,aI] λx1=>sh (cF [.bool,.sl] a1) λ(x2:Bool×Sl)=>AI ((x2.1,x2.2),false) else mZ n a1 a2 a3 else mZ n a1 a2 a3
def sd (n:Nat)(a0:ζ):M ((Bool×Sl)×Bool):=nW aH [.bool false,aI] λx0=>nW aH [.bool false,aI] λx1=>sN (ak x1) [.bool false,aI] λx2=>if decide (1<(↑a0.size:Int)) then sh (qc a0 0) λx3=>if decide ((↑x3.toNat:Int)=45) then sN ((ak x1).plus 0) [.bool true] λx4=>sh (jG a0 1 (↑a0.size:Int)) λx5=>kM n a0 (ak x0) (ak x1) x5 else kM n a0 (ak x0) (ak x1) a0 else kM n a0 (ak x0) (ak x1) a0
abbrev aaE (n:Nat):cA:=eN 104 [mV] [.agg [.bool,.sl],jd] (sd n)
abbrev aff:=L2 (bL 703) [(2,aB),(4,aB),(5,mV),(44,av),(45,av)] [] [(3,jd)] ([3,6]++rG 45 27) 0 .ret mY
def UD:=dR [(14,[0]++rG 2 9++[1,11,12])]
abbrev SA (n:Nat):List (gO (Unit⊕Bool)):=[jN (bL 117951) [.au 1,.code (bL 15551)] [(2,aB),(4,aB),(5,mV),(6,av),(44,av),(45,av)] (Ft n)]
abbrev afg (n:Nat):List (gO ((Bool×Sl)×Bool)):=[jN (bL 79) [.code (bL 111),.code [1,1,1,1,1]] [(0,mV),(2,aB),(4,aB),(5,mV)] (kM n), jN (bL 95) [.code (bL 127)] [(2,aB),(4,aB),(5,mV)] (mZ n)]
def SB (n:Nat):=aff.k TZp Tryz.f104 n (dr:=UD) (jt:=SA) (hT:=λm _=>.m3 (K7 m) (.cc .nil))
def IH (n:Nat):aC TZp (aaE n):=aL Tryz.f104 (dr:=UD) (js:=afg n) (hT:=⟨.nil,K7 n,.nil,(.cc (SB n) .nil),(.cc (.cc .nil))⟩)
def se (n:Nat)(a0:Bool×Sl×Int):M ζ:=nW bB [.bool a0.1,aA a0.2.1,vi a0.2.2] λx0=>lS (ak x0) 1 λx1=>if decide ((↑x1.len:Int)=0) then AI (ofBytes [48]) else sh (cF [.bool,.sl,li] (ak x0)) λ(x2:Bool×Sl×Int)=>sh (cF [.bool,.sl,li] (ak x0)) λ(x3:Bool×Sl×Int)=>sh (sM [some (ak x0)] (r9 n (x2.1,x2.2.1,x2.2.2))) λx4=>sh (pJ n (x3.1,x3.2.1,x3.2.2)) λx5=>sh (mG x4 x5) λx6=>AI x6
abbrev aaF (n:Nat):cA:=eN 179 [.agg [.bool,.sl,.int .i64]] [mV] (se n)
def afh:=dR [(3,[0,2,3001,3,4,5])]
def Em (n:Nat):aC TZp (aaF n):=aL Tryz.f179 (dr:=afh) (hT:=.m1 (K7 n))
def Kn (n:Nat):M (Nat):=sh (dB n 9221120237041090561) λx0=>AI x0
abbrev aaG (n:Nat):cA:=eN 141 [] [.one (.f64)] (Kn n)
def Qo (n:Nat):aC TZp (aaG n):=aL Tryz.f141 (hT:=.m1 (K7 n))
def Ds (n:Nat)(a0:Int):M (Nat):=if decide (0<=a0) then sh (dB n 9218868437227405312) λx0=>AI x0 else sh (dB n 18442240474082181120) λx0=>AI x0
abbrev aaH (n:Nat):cA:=eN 142 [av] [.one (.f64)] (Ds n)
def Qp (n:Nat):aC TZp (aaH n):=aL Tryz.f142 (hT:=.m1 (K7 n))
def uH (n:Nat)(a0 a1:ζ):M (ζ×ζ×Bool):=sh (kY n a0 a1) λx0=>if decide (0<=x0) then sh (jG a0 0 x0) λx1=>sh (jG a0 (i64.wrap (x0+(↑a1.size:Int))) (↑a0.size:Int)) λx2=>AI (x1,x2,true) else AI (a0,(ofBytes []),false)
abbrev aaI (n:Nat):cA:=eN 182 [mV,mV] [mV,mV,jd] (uH n)
def afi:=dR [(3,rG 0 12)]
def Dt (n:Nat):aC TZp (aaI n):=aL Tryz.f182 (dr:=afi) (hT:=.m1 (K7 n))
def ru (n:Nat)(a0 a1:Int):M Bool:=sh (gR n a0) λx0=>sh (qT (decide (2≠0))) λx1=>if decide (a0.tmod 2=1) then if decide (x0<=53) then if decide (-1074<=a1) then if decide (a1<=1023) then AI (decide (i64.wrap (a1+x0)<=1024)) else AI false else AI false else AI false else AI false
abbrev aaJ (n:Nat):cA:=eN 145 [.one (.int .u64),av] [jd] (ru n)
def Ko (n:Nat):aC TZp (aaJ n):=aL Tryz.f145 (hT:=.m1 (K7 n))
def qD (n a0 a1:Nat):M (Nat):=sh (fU n a0) λx0=>sh (fU n a1) λx1=>sh (dB n (IntKind.u64.wrap (↑(BitVec.ofInt 64 (IntKind.u64.wrap (↑(BitVec.ofInt 64 x0&&&~~~BitVec.ofInt 64 9223372036854775808).toNat:Int))|||BitVec.ofInt 64 (IntKind.u64.wrap (↑(BitVec.ofInt 64 x1&&&BitVec.ofInt 64 9223372036854775808).toNat:Int))).toNat:Int))) λx2=>AI x2
abbrev aaK (n:Nat):cA:=eN 148 [.one (.f64),.one (.f64)] [.one (.f64)] (qD n)
def Hq (n:Nat):aC TZp (aaK n):=aL Tryz.f148 (hT:=.m1 (K7 n))
def Du (n a0:Nat):M (Nat):=sh (fU n a0) λx0=>sh (dB n (IntKind.u64.wrap (↑(BitVec.ofInt 64 x0&&&~~~BitVec.ofInt 64 9223372036854775808).toNat:Int))) λx1=>AI x1
abbrev aaL (n:Nat):cA:=eN 229 [.one (.f64)] [.one (.f64)] (Du n)
def Qq (n:Nat):aC TZp (aaL n):=aL Tryz.f229 (hT:=.m1 (K7 n))
def Bp (n a0:Nat):M Bool:=sh (fU n a0) λx0=>AI (decide (i64.wrap x0<0))
abbrev aaM (n:Nat):cA:=eN 186 [.one (.f64)] [jd] (Bp n)
def II (n:Nat):aC TZp (aaM n):=aL Tryz.f186 (hT:=.m1 (K7 n))
def tH (n:Nat)(a0 a1:Int):M ζ:=sh (hG n a0 a1) λx0=>AI x0
abbrev aaN (n:Nat):cA:=eN 189 [.one (.int .u64),av] [mV] (tH n)
def Co (n:Nat):aC TZp (aaN n):=aL Tryz.f189 (hT:=.m1 (K7 n))
def ml (n:Nat)(x:ξ)(a0:Int):M (Int×Bool):=if tU rW x then sh (sB [aB,aB] x) λ(c:Addr×Addr)=>ri n a0 c.1 c.2 else AS
abbrev xp:=Sl->Int->Int->Addr->Addr->Addr->Int->Int->M (Unit⊕Bool)
def eM (G:xp)(n:Nat)(a0:Sl)(a1 a2:Int)(a3 a4 a5:Addr)(a6 a7 a8 a9:Int):M (Unit⊕Bool):=sh (dz .raw a5) λ(x0:ξ)=>sh (ml n x0 a7) λx1=>if !x1.2 then AI (Sum.inr false) else iX a0 a6 1 λx2=>sN x2 [vi x1.1] λx3=>G a0 a1 a2 a3 a4 a5 a8 (i64.wrap (a9+1))
def k8:pq (xp):=λG n a0 a1 a2 a3 a4 a5 a6 a7=>if decide (a7<a6) then if decide (0<a7) then eI a3 λx0=>eT a4 λx1=>if decide ((↑(ByteArray.size x1):Int)<=x0) then AI (Sum.inr false) else eT a4 λx2=>eI a3 λx3=>sh (qc x2 x3) λx4=>if !decide ((↑x4.toNat:Int)=a2) then AI (Sum.inr false) else eI a3 λx5=>sN a3 [vi (i64.wrap (x5+1))] λx6=>if decide (a7=0) then eM G n a0 a1 a2 a3 a4 a5 a7 a1 a6 a7 else eM G n a0 a1 a2 a3 a4 a5 a7 2 a6 a7 else if decide (a7=0) then eM G n a0 a1 a2 a3 a4 a5 a7 a1 a6 a7 else eM G n a0 a1 a2 a3 a4 a5 a7 2 a6 a7 else AI (Sum.inl ())
def iT:=lp k8
def Dv (n:Nat):=eM (iT n) n
def jY (n:Nat)(a0:Sl)(a1 a2:Int)(a3 a4 a5:Addr):M Bool:=sh (iT n a0 a1 a2 a3 a4 a5 (↑a0.len:Int) 0) (aK (λx0=>AI true) (λx0=>AI x0))
abbrev aaO (n:Nat):cA:=eN 151 [aU,av,.one (.int .u8),aB,aB,aB] [jd] (jY n)
abbrev afj:=L2 [0,1,0,1] [(0,aU),(1,av),(2,.one (.int .u8)),(3,aB),(4,aB),(5,aB),(15,av),(16,av)] [] [(9,jd)] (rG 9 5++rG 16 34) 0 .ret iT
abbrev afk (n:Nat):List tB:=[dN 38 [av] [av,jd] (ml n)]
abbrev SC (n:Nat):List (gO (Unit⊕Bool)):=[jN (bL 24165) [.code (bL 32357),.au 1,.code (bL 485)] [(0,aU),(1,av),(2,.one (.int .u8)),(3,aB),(4,aB),(5,aB),(10,av),(11,av),(15,av),(16,av)] (Dv n)]
def UE (n:Nat):sP TZp (afk n):=.cons (dA (.cons (lA [aB,aB] (zw n)) .nil)) .nil
def SD (n:Nat):=afj.k TZp Tryz.f151 n (jt:=SC) (hT:=λm _=>⟨.nil,K7 m,(UE m),.nil,(.cc .nil)⟩)
def qY (n:Nat):aC TZp (aaO n):=aL Tryz.f151 (hT:=⟨.nil,K7 n,(UE n),(.cc (SD n) .nil),.nil⟩)
def pR (n:Nat)(a0 a1:Int):M Int:=nW Kh [vi 0,vi 0,vi 0,vi 0,vi 0,vi 0,vi 0,vi 0,vi 0,vi 0,vi 0,vi 0,vi 0] λx0=>sN (ak x0) [vi 0,vi 31,vi 28,vi 31,vi 30,vi 31,vi 30,vi 31,vi 31,vi 30,vi 31,vi 30,vi 31] λx1=>if decide (a1=2) then sh (Bf n a0) λx2=>if x2 then AI 29 else sh (qT (decide (0<=a1/\a1<(↑13:Int)))) λx3=>sh (dz li ((ak x0).plus (a1.toNat*1))) λ(x4:Int)=>AI x4 else sh (qT (decide (0<=a1/\a1<(↑13:Int)))) λx2=>sh (dz li ((ak x0).plus (a1.toNat*1))) λ(x3:Int)=>AI x3
abbrev aaP (n:Nat):cA:=eN 191 [av,av] [av] (pR n)
def IJ (n:Nat):aC TZp (aaP n):=aL Tryz.f191 (hT:=.m1 (K7 n))
def lU (n:Nat)(a0 a1:Int):M ζ:=sh (strconv_Itoa n a0) λx0=>sh (strings_Repeat n (ofBytes [48]) (if 0<i64.wrap (a1-(↑(ByteArray.size x0):Int)) then i64.wrap (a1-(↑(ByteArray.size x0):Int)) else 0)) λx1=>sh (mG x1 x0) λx2=>AI x2
abbrev aaQ (n:Nat):cA:=eN 193 [av,av] [mV] (lU n)
def Kp (n:Nat):aC TZp (aaQ n):=aL Tryz.f193 (hT:=.m1 (K7 n))
def vM:pq (Addr->μ->Int->Addr->Sl->Int->Int->Sl->Int->Int->Sl->Int->Int->M (Unit⊕Bool)):=λG n a0 a1 a2 a3 a4 a5 a6 a7 a8 a9 a10 a11 a12=>if decide (a12<a11) then iX a10 a12 1 λx0=>eI x0 λx1=>gL a0 λx2=>sh (kJ n (x2.1,x2.2) a2 x1) λx3=>if x3 then AI (Sum.inr true) else G a0 a1 a2 a3 a4 a5 a6 a7 a8 a9 a10 a11 (i64.wrap (a12+1)) else AI (Sum.inl ())
def rv:=lp vM
theorem En (n:Nat):rv (n+1)=vM (rv n) n:=rfl
def vN:pq (Addr->μ->Sl->Int->Int->Sl->Int->Int->M (Unit⊕Bool)):=λG n a0 a1 a2 a3 a4 a5 a6 a7=>if decide (a7<a6) then iX a5 a7 1 λx0=>eI x0 λx1=>sh (bX 15) λx2=>lS a0 0 λx3=>iX x3 x1 5 λx4=>lI x4 0 λx5=>lS a0 0 λx6=>iX x6 x1 5 λx7=>lT x7 1 λx8=>sh (gG (some (x2+13)) eK [vi 0,.string (ofBytes [])]) λx9=>sN (ak x9) [vi x5,.string x8] λcH=>sh (cF [li,.str] (ak x9)) λ(x11:Int×ζ)=>sh (CJ eK (Ty.one .sl) oz a1 (Value.agg #[vi x11.1,.string x11.2])) λ(x12:Bool×Sl)=>sh (rv n a0 a1 x1 (ak x9) a2 a3 a4 a5 a6 a7 x12.2 (↑x12.2.len:Int) 0) (aK (λx13=>sh (cF [li,.str] (ak x9)) λ(x14:Int×ζ)=>sh (AQ eK (Ty.one .sl) oz a1 (Value.agg #[vi x14.1,.string x14.2])) λx15=>sh (app false x15.1 1 an 1 [vi x1]) λx16=>sh (AR a1 (↑x15.2:Int) (aA x16)) λx17=>G a0 a1 a2 a3 a4 a5 a6 (i64.wrap (a7+1))) (λx13=>AI (Sum.inr x13))) else AI (Sum.inl ())
def oW:=lp vN
theorem Eo (n:Nat):oW (n+1)=vN (oW n) n:=rfl
def vO:pq (Addr->Sl->Int->Int->M (Unit⊕Bool)):=λG n a0 a1 a2 a3=>if decide (a3<a2) then iX a1 a3 5 λx0=>nL x0 λx1=>nW ar [vi 0,.string (ofBytes []),.bool false,aI,aI] λx2=>sN (ak x2) [vi x1.1,.string x1.2.1,.bool x1.2.2.1,aA x1.2.2.2.1,aA x1.2.2.2.2] λx3=>sh (H0 eK) λx4=>lS (ak x2) 3 λx5=>sh (oW n a0 (some x4) a1 a2 a3 x5 (↑x5.len:Int) 0) (aK (λx6=>G a0 a1 a2 (i64.wrap (a3+1))) (λx6=>AI (Sum.inr x6))) else AI (Sum.inl ())
def oX:=lp vO
theorem Ep (n:Nat):oX (n+1)=vO (oX n) n:=rfl
def zC (n:Nat)(a0:Sl×Int):M Bool:=nW ai [aA a0.1,vi a0.2] λx0=>lS (ak x0) 0 λx1=>sh (oX n (ak x0) x1 (↑x1.len:Int) 0) (aK (λx2=>AI false) (λx2=>AI x2))
abbrev ahI (n:Nat):cA:=eN 30 [.agg [.sl,.int .i64]] [jd] (zC n)
abbrev aj4:=L2 [0,1,0,1] [(1,aB),(12,aU),(13,av),(14,av)] [] [(2,jd)] ([2,4,5,7,8,10]++rG 14 48) 0 .ret oX
abbrev aj5:=L2 (bL 11877) [(1,aB),(5,tyM),(12,aU),(13,av),(14,av),(20,aU),(21,av),(22,av)] [] [(2,jd)] ([2,7,8,10]++rG 22 39) 2 .ret oW
abbrev aj6:=L2 (bL 11325029) [(1,aB),(5,tyM),(7,av),(8,aB),(12,aU),(13,av),(14,av),(20,aU),(21,av),(22,av),(41,aU),(42,av),(43,av)] [] [(2,jd)] ([2,10]++rG 43 9) 4 .ret rv
def NT:=dR [(8,[0,2,6,8,1,3,4,5,7]++rG 9 6)]
def WQ (n:Nat):=aj6.k TZp Tryz.f30 n (dr:=NT) (hT:=λm _=>.m1 (K7 m))
def WR (n:Nat):=aj5.k TZp Tryz.f30 n (dr:=NT) (hT:=λm _=>.m2 (K7 m) (.cc (WQ m) .nil))
def WS (n:Nat):=aj4.k TZp Tryz.f30 n (dr:=NT) (hT:=λm _=>.m2 (K7 m) (.cc (WR m) .nil))
def Kq (n:Nat):aC TZp (ahI n):=aL Tryz.f30 (dr:=NT) (hT:=.m2 (K7 n) (.cc (WS n) .nil))
def rz (n:Nat)(x:ξ)(a0:Int):M Unit:=if tU nz x then sh (sB [aB,aB,aB,aB,aB,aB,aB,aB,aB] x) λ(c:Addr×Addr×Addr×Addr×Addr×Addr×Addr×Addr×Addr)=>gX n a0 c.1 c.2.1 c.2.2.1 c.2.2.2.1 c.2.2.2.2.1 c.2.2.2.2.2.1 c.2.2.2.2.2.2.1 c.2.2.2.2.2.2.2.1 c.2.2.2.2.2.2.2.2 else AS
def qL:pq (Addr->Int->Addr->Addr->Addr->Int->Int->M Unit):=λG n a0 a1 a2 a3 a4 a5 a6=>if decide (a6<a5) then eS a4 λx0=>iX x0 a6 1 λx1=>sN x1 [vi (-1)] λx2=>G a0 a1 a2 a3 a4 a5 (i64.wrap (a6+1)) else AI ()
def lg:=lp qL
theorem Aa (n:Nat):lg (n+1)=qL (lg n) n:=rfl
def sf (n:Nat)(a0:Sl×Int):M (Sl×Sl):=nW ai [aA a0.1,vi a0.2] λx0=>lS (ak x0) 0 λx1=>sh (bX 12) λx2=>sh (xm (some (x2+1)) an [vi 0] (↑x1.len:Int) (↑x1.len:Int)) λx3=>sh (xm (some (x2+3)) an [vi 0] (↑x1.len:Int) (↑x1.len:Int)) λx4=>sh (xm (some (x2+5)) an [vi 0] (↑x1.len:Int) (↑x1.len:Int)) λx5=>sh (gG (some (x2+6)) aT [aI]) λx6=>sh (gG (some (x2+7)) aT [aI]) λx7=>sh (gG (some (x2+8)) aT [aI]) λx8=>sh (Jz [x2+3,x2+5] (ak x6) (sM [none,none] (sL (ak x6) [aA x3]))) λx9=>sh (Jz [x2+5] (ak x7) (sM [none] (sL (ak x7) [aA x4]))) λcH=>sN (ak x8) [aA x5] λx11=>sh (dz .sl (ak x8)) λ(x12:Sl)=>sh (lg n (ak x0) (↑x1.len:Int) (ak x6) (ak x7) (ak x8) (↑x12.len:Int) 0) λx13=>nW aT [aI] λx14=>nW aT [aI] λx15=>sh (xm none e9 [.bool false] (↑x1.len:Int) (↑x1.len:Int)) λx16=>nW mW [aI] λx17=>sN (ak x17) [aA x16] λx18=>nW an [vi 0] λx19=>sN (ak x19) [vi 0] λx20=>nW vH [Value.nilFunc] λx21=>sN (ak x21) [.func (Fn.func nz) #[] #[.pointer (some (ak x19)),.pointer (some (ak x6)),.pointer (some (ak x7)),.pointer (some (ak x15)),.pointer (some (ak x17)),.pointer (some (ak x21)),.pointer (some (ak x0)),.pointer (some (ak x14)),.pointer (some (ak x8))]] λx22=>sh (dz .raw (ak x21)) λ(x23:ξ)=>lI (ak x0) 1 λx24=>sh (rz n x23 x24) λx25=>sh (dz .sl (ak x8)) λ(x26:Sl)=>sh (dz .sl (ak x14)) λ(x27:Sl)=>AI (x26,x27)
abbrev ahJ (n:Nat):cA:=eN 53 [.agg [.sl,.int .i64]] [aU,aU] (sf n)
abbrev aj7:=L1 (bL 87) [(1,aB),(4,av),(5,aB),(6,aB),(7,aB),(24,av),(25,av)] [] ([8]++rG 25 7) 0 lg
abbrev aj8 (n:Nat):List tB:=[dN 35 [av] [] (rz n)]
def aaR:=dR [(2,[0,2,4,1,3,5,6,7,8,6004009,6010,11]),(14,[0,2,1,3])]
def aaS (n:Nat):sP TZp (aj8 n):=.cons (dA (.cons (lA [aB,aB,aB,aB,aB,aB,aB,aB,aB] (Ci n)) .nil)) .nil
def WT (n:Nat):=aj7.k TZp Tryz.f53 n (dr:=aaR) (hT:=λm _=>⟨.nil,K7 m,(aaS m),.nil,.nil⟩)
def Er (n:Nat):aC TZp (ahJ n):=aL Tryz.f53 (dr:=aaR) (hT:=⟨.nil,K7 n,(aaS n),(.cc (WT n) .nil),.nil⟩)
def Bq (n:Nat)(x:ξ)(a0:Int):M Int:=if tU wu x then sh (sB [aB,aB,aB] x) λ(c:Addr×Addr×Addr)=>rn n a0 c.1 c.2.1 c.2.2 else AS
def D4 (n:Nat)(a0:Sl×Int)(a1:Int):M (Sl×Int):=nW ai [aA a0.1,vi a0.2] λx0=>nW ai [aI,vi 0] λx1=>nW ai [aI,vi 0] λx2=>nW zV [Value.nilFunc] λx3=>sN (ak x3) [.func (Fn.func wu) #[] #[.pointer (some (ak x2)),.pointer (some (ak x0)),.pointer (some (ak x3))]] λx4=>sh (dz .raw (ak x3)) λ(x5:ξ)=>sh (Bq n x5 a1) λx6=>gL (ak x2) λx7=>sN (ak x1) [aA x7.1,vi x7.2] λx8=>gL (ak x1) λx9=>AI (x9.1,x9.2)
abbrev ahK (n:Nat):cA:=eN 54 [.agg [.sl,.int .i64],av] [.agg [.sl,.int .i64]] (D4 n)
abbrev aj9 (n:Nat):List tB:=[dN 8 [av] [av] (Bq n)]
def aka (n:Nat):sP TZp (aj9 n):=.cons (dA (.cons (lA [aB,aB,aB] (Kl n)) .nil)) .nil
def NU (n:Nat):aC TZp (ahK n):=aL Tryz.f54 (hT:=⟨.nil,K7 n,(aka n),.nil,.nil⟩)
def kC (n:Nat)(a0 a1:ζ):M Int:=sh (cU n a0 a1) λx0=>AI x0
abbrev ahL (n:Nat):cA:=eN 64 [mV,mV] [av] (kC n)
def yI (n:Nat):aC TZp (ahL n):=aL Tryz.f64 (hT:=.m1 (K7 n))
def pS (n:Nat)(x:ξ)(a0:Bool×Sl×Int)(a1:Int):M Int:=if tU lF x then sh (sB [] x) λ(_:Unit)=>jW n a0 a1 else AS
def pT (n:Nat)(x:ξ)(a0:Bool×Sl×Int)(a1:Int):M Int:=if tU lF x then sh (sB [] x) λ(_:Unit)=>jW n a0 a1 else AS
def oY:pq (Addr->Addr->ξ->Int->Int->M (Unit⊕Int)):=λG n a0 a1 a2 a3 a4=>if decide (a4<a3) then sh (cF [.bool,.sl,li] a0) λ(x0:Bool×Sl×Int)=>sh (cF [.bool,.sl,li] a1) λ(x1:Bool×Sl×Int)=>sh (sM [some a1] (pS n a2 (x0.1,x0.2.1,x0.2.2) a4)) λx2=>sh (pT n a2 (x1.1,x1.2.1,x1.2.2) a4) λx3=>if !decide (i64.wrap (i64.wrap x2-i64.wrap x3)=0) then AI (Sum.inr (i64.wrap (i64.wrap x2-i64.wrap x3))) else G a0 a1 a2 a3 (i64.wrap (a4+1)) else AI (Sum.inl ())
def jr:=lp oY
theorem yJ (n:Nat):jr (n+1)=oY (jr n) n:=rfl
def qM (n:Nat)(a0 a1:Addr):M Int:=lS a0 1 λx0=>lI a0 2 λx1=>lS a1 1 λx2=>lI a1 2 λx3=>if !decide (i64.wrap (i64.wrap (i64.wrap ((↑x0.len:Int)+x1)-(↑x2.len:Int))-x3)=0) then AI (i64.wrap (i64.wrap (i64.wrap ((↑x0.len:Int)+x1)-(↑x2.len:Int))-x3)) else lS a0 1 λx4=>lS a1 1 λx5=>sh (jr n a0 a1 (Value.func (Fn.func lF) #[] #[]) (if (↑x4.len:Int)<(↑x5.len:Int) then (↑x5.len:Int) else (↑x4.len:Int)) 0) (aK (λx6=>AI 0) (λx6=>AI x6))
def pU (n:Nat)(a0 a1:Bool×Sl×Int):M Int:=nW bB [.bool a0.1,aA a0.2.1,vi a0.2.2] λx0=>nW bB [.bool a1.1,aA a1.2.1,vi a1.2.2] λx1=>lS (ak x0) 1 λx2=>if decide ((↑x2.len:Int)=0) then lS (ak x0) 1 λx3=>lS (ak x1) 1 λx4=>AI (i64.wrap ((↑x3.len:Int)-(↑x4.len:Int))) else lS (ak x1) 1 λx3=>if decide ((↑x3.len:Int)=0) then lS (ak x0) 1 λx4=>lS (ak x1) 1 λx5=>AI (i64.wrap ((↑x4.len:Int)-(↑x5.len:Int))) else qM n (ak x0) (ak x1)
abbrev aaT (n:Nat):cA:=eN 265 [.agg [.bool,.sl,.int .i64],.agg [.bool,.sl,.int .i64]] [av] (pU n)
abbrev afl:=L2 (bL 175) [(2,aB),(3,aB),(6,vA),(48,av),(49,av)] [] [(4,av)] ([4,7,8]++rG 49 18) 0 .ret jr
abbrev afm (n:Nat):List tB:=[dN 52 [.agg [.bool,.sl,.int .i64],av] [.one (.int .u8)] (pS n), dN 57 [.agg [.bool,.sl,.int .i64],av] [.one (.int .u8)] (pT n)]
def UF:=dR [(10,[0,2,5,7,1,6,7003,4,8,9,10,11])]
abbrev afn (n:Nat):List (gO Int):=[jN [0,0,1,1] [.code [1,0,1,1],.code [1,1,1]] [(2,aB),(3,aB)] (qM n)]
def UG (n:Nat):sP TZp (afm n):=.cons (dA (.cons (lA [] (oS n)) .nil)) (.cons (dA (.cons (lA [] (oS n)) .nil)) .nil)
def SE (n:Nat):=afl.k TZp Tryz.f265 n (dr:=UF) (hT:=λm _=>⟨.nil,K7 m,(UG m),.nil,.nil⟩)
def Cp (n:Nat):aC TZp (aaT n):=aL Tryz.f265 (dr:=UF) (js:=afn n) (hT:=⟨.nil,K7 n,(UG n),(.cc (SE n) .nil),(.cc .nil)⟩)
def sU (n:Nat)(a0:Int):M Int:=sh (gR n a0) λx0=>AI x0
abbrev ahM (n:Nat):cA:=eN 63 [.one (.int .u64)] [av] (sU n)
def Hr (n:Nat):aC TZp (ahM n):=aL Tryz.f63 (hT:=.m1 (K7 n))
def jZ:pq (θ->Sl->Int->Int->M (Unit⊕Int)):=λG n a0 a1 a2 a3=>if decide (a3<a2) then iX a1 a3 1 λx0=>eI x0 λx1=>sh (nn a0) λx2=>lS (x2.plus 0) 0 λx3=>iX x3 x1 5 λx4=>lI x4 0 λx5=>if !decide (x5=5) then AI (Sum.inr 16) else G a0 a1 a2 (i64.wrap (a3+1)) else AI (Sum.inl ())
def fB:=lp jZ
theorem uI (n:Nat):fB (n+1)=jZ (fB n) n:=rfl
def lL (n:Nat)(a0:θ)(a1:Addr)(a2:Int):M Int:=if decide (a2=6) then lT a1 1 λx0=>sh (eV n x0) λx1=>if x1 then AI 11 else AI 0 else if decide (a2=10) then lB a1 2 λx0=>if x0 then AI 10 else lS a1 3 λx1=>sh (fB n a0 x1 (↑x1.len:Int) 0) (aK (λx2=>AI 0) (λx2=>AI x2)) else AI 10
def jS (n:Nat)(a0:θ)(a1:Int×ζ×Bool×Sl×Sl):M Int:=nW ar [vi a1.1,.string a1.2.1,.bool a1.2.2.1,aA a1.2.2.2.1,aA a1.2.2.2.2] λx0=>lI (ak x0) 0 λx1=>if decide (x1=2) then AI 0 else if decide (x1=5) then AI 0 else if decide (x1=9) then AI 0 else lL n a0 (ak x0) x1
abbrev ahN (n:Nat):cA:=eN 35 [GQ,.agg [.int .i64,.str,.bool,.sl,.sl]] [av] (jS n)
abbrev akb:=L2 (bL 22005) [(0,GQ),(23,aU),(24,av),(25,av)] [] [(4,av)] ([4,6]++rG 25 15) 1 .ret fB
abbrev akc (n:Nat):List (gO Int):=[jN (bL 181) [.code (bL 245),.au 0,.code [1,1]] [(0,GQ),(3,aB),(8,av)] (lL n)]
def WU (n:Nat):=akb.k TZp Tryz.f35 n (hT:=λm _=>.m1 (K7 m))
def xJ (n:Nat):aC TZp (ahN n):=aL Tryz.f35 (js:=akc n) (hT:=⟨.nil,K7 n,.nil,(.cc (WU n) .nil),(.cc .nil)⟩)
def gh (n:Nat)(a0:θ):M Unit:=sh (nn a0) λx0=>sh (dz .ptr (x0.plus 0)) λ(x1:θ)=>if Option.isNone x1 then sh (nn a0) λx2=>sh (inB x2) λx3=>sh (ur n (some x3)) λx4=>sh (nn x4) λx5=>sh (atB Gi 2 x5) λx6=>sh (nn a0) λx7=>sN (x7.plus 0) [.pointer (some x6)] λx8=>AI () else sh (nn a0) λx2=>sh (dz .ptr (x2.plus 0)) λ(x3:θ)=>sh (eqP x3 a0) λx4=>if !x4 then AS else AI ()
abbrev ahO (n:Nat):cA:=eN 61 [GQ] [] (gh n)
def w9 (n:Nat):aC TZp (ahO n):=aL Tryz.f61 (hT:=.m1 (K7 n))
def Es:pq (Sl->Addr->Int->Sl->Int->Int->M Sl):=λG n a0 a1 a2 a3 a4 a5=>if decide (a5<a4) then iX a3 a5 5 λx0=>nL x0 λx1=>nW ar [vi 0,.string (ofBytes []),.bool false,aI,aI] λx2=>sN (ak x2) [vi x1.1,.string x1.2.1,.bool x1.2.2.1,aA x1.2.2.2.1,aA x1.2.2.2.2] λx3=>lS (ak x2) 3 λx4=>lS (ak x2) 4 λx5=>sh (sM [some ((ak x2).plus 4)] (zZ n x4 a2)) λx6=>sh (zZ n x5 a2) λx7=>sN ((ak x2).plus 3) [aA x6] λx8=>sN ((ak x2).plus 4) [aA x7] λx9=>nL (ak x2) λcH=>sh (app false a0 5 ar 1 [vi cH.1,.string cH.2.1,.bool cH.2.2.1,aA cH.2.2.2.1,aA cH.2.2.2.2]) λx11=>G x11 a1 a2 a3 a4 (i64.wrap (a5+1)) else AI a0
def zD:=lp Es
def uJ (n:Nat)(a0:Sl)(a1:Sl×Int):M (Sl×Int):=nW ai [aA a1.1,vi a1.2] λx0=>lS (ak x0) 0 λx1=>sh (zD n a0 (ak x0) (↑a0.len:Int) x1 (↑x1.len:Int) 0) λx2=>lI (ak x0) 1 λx3=>AI (x2,i64.wrap (x3+(↑a0.len:Int)))
abbrev ahP (n:Nat):cA:=eN 21 [aU,.agg [.sl,.int .i64]] [aU,av] (uJ n)
abbrev akd:=L1 [0,1,0,1,1] [(0,aU),(3,aB),(6,av),(12,aU),(13,av),(14,av)] [(0,aU)] ([0,8]++rG 14 19) 0 zD
def aaU:=dR [(5,[0,2,4,6,1,5,6003,8,7,9,10,11]),(8,[0,1,3,5,2,4,6])]
def WV (n:Nat):=akd.k TZp Tryz.f21 n (dr:=aaU) (hT:=λm _=>.m1 (K7 m))
def Gl (n:Nat):aC TZp (ahP n):=aL Tryz.f21 (dr:=aaU) (hT:=.m2 (K7 n) (.cc (WV n) .nil))
def Gm:pq (Sl->Int->Int->M (Unit⊕Bool)):=λG n a0 a1 a2=>if decide (a2<a1) then iX a0 a2 1 λx0=>eI x0 λx1=>if decide (1<x1) then AI (Sum.inr true) else G a0 a1 (i64.wrap (a2+1)) else AI (Sum.inl ())
def BZ:=lp Gm
def Gn (n:Nat)(a0:Sl×Int):M Bool:=nW ai [aA a0.1,vi a0.2] λx0=>gL (ak x0) λx1=>sh (uB n (x1.1,x1.2)) λx2=>sh (BZ n x2 (↑x2.len:Int) 0) (aK (λx3=>AI false) (λx3=>AI x3))
abbrev ahQ (n:Nat):cA:=eN 24 [.agg [.sl,.int .i64]] [jd] (Gn n)
abbrev ake:=L2 [0,1,0,1] [(6,aU),(7,av),(8,av)] [] [(2,jd)] ([2,4]++rG 8 7) 0 .ret BZ
def WW (n:Nat):=ake.k TZp Tryz.f24 n (hT:=λm _=>.m1 (K7 m))
def IK (n:Nat):aC TZp (ahQ n):=aL Tryz.f24 (hT:=.m2 (K7 n) (.cc (WW n) .nil))
abbrev wN:=Int->Sl->Int->M (Unit⊕(Int×Int))
def oZ (G:wN)(n:Nat)(a0:Int)(a1:Sl)(a2:Int):M (Unit⊕(Int×Int)):=sh (jH a1 a0 (i64.wrap (a0+a2)) gH 1) λx0=>sh (k7 n x0) λx1=>if decide (x1.2=a2) then AI (Sum.inr (x1.1,x1.2)) else G a0 a1 (i64.wrap (a2+1))
def rA:pq (wN):=λG n a0 a1 a2=>if decide (a2<=4) then if decide (i64.wrap (a0+a2)<=(↑a1.len:Int)) then oZ G n a0 a1 a2 else AI (Sum.inl ()) else AI (Sum.inl ())
def jJ:=lp rA
theorem AH (n:Nat):jJ (n+1)=rA (jJ n) n:=rfl
def Cq (n:Nat):=oZ (jJ n) n
def tg (n:Nat)(a0:ζ)(a1:Int):M (Int×Int):=sh (Ao gH a0) λx0=>sh (jJ n a1 x0 1) (aK (λx1=>AI (0,0)) (λx1=>AI (x1.1,x1.2)))
abbrev aaV (n:Nat):cA:=eN 207 [mV,av] [av,av] (tg n)
abbrev afo:=L2 [0,1,0,1,1] [(1,av),(6,aU),(7,av)] [] [(4,av),(5,av)] ([4,5,7,8,9]++rG 12 27) 0 .ret jJ
abbrev SF (n:Nat):List (gO (Unit⊕(Int×Int))):=[jN (bL 1099) [.code (bL 1611),.au 1,.code (bL 459)] [(1,av),(6,aU),(7,av)] (Cq n)]
def SG (n:Nat):=afo.k TZp Tryz.f207 n (jt:=SF) (hT:=λm _=>.m3 (K7 m) (.cc .nil))
def Fu (n:Nat):aC TZp (aaV n):=aL Tryz.f207 (hT:=.m2 (K7 n) (.cc (SG n) .nil))
def n8:pq (Addr->Sl->Int->Int->Sl->Int->M Unit):=λG n a0 a1 a2 a3 a4 a5=>if decide (a5<(↑a4.len:Int)) then iX a1 a5 1 λx0=>eB x0 λx1=>if x1 then iX a1 a5 1 λx2=>sN x2 [.bool true] λx3=>G a0 a1 a2 a3 a4 (i64.wrap (a5+1)) else iX a4 a5 1 λx2=>eB x2 λx3=>iX a1 a5 1 λx4=>sN x4 [.bool x3] λx5=>G a0 a1 a2 a3 a4 (i64.wrap (a5+1)) else AI ()
def fY:=lp n8
theorem xK (n:Nat):fY (n+1)=n8 (fY n) n:=rfl
def od:pq (Addr->Sl->Int->Int->M Unit):=λG n a0 a1 a2 a3=>lS a0 0 λx0=>iX x0 a2 5 λx1=>lS x1 3 λx2=>if decide (a3<(↑x2.len:Int)) then gL a0 λx3=>lS a0 0 λx4=>iX x4 a2 5 λx5=>lS x5 3 λx6=>iX x6 a3 1 λx7=>eI x7 λx8=>sh (jI n (x3.1,x3.2) x8) λx9=>sh (fY n a0 a1 a2 a3 x9 0) λcH=>G a0 a1 a2 (i64.wrap (a3+1)) else AI ()
def iU:=lp od
theorem xL (n:Nat):iU (n+1)=od (iU n) n:=rfl
def oe:pq (Addr->Sl->Int->M Unit):=λG n a0 a1 a2=>lS a0 0 λx0=>if decide (a2<(↑x0.len:Int)) then sh (iU n a0 a1 a2 0) λx1=>G a0 a1 (i64.wrap (a2+1)) else AI ()
def iV:=lp oe
theorem xM (n:Nat):iV (n+1)=oe (iV n) n:=rfl
def oD (n:Nat)(a0:Sl×Int):M Sl:=nW ai [aA a0.1,vi a0.2] λx0=>lS (ak x0) 0 λx1=>sh (xm none e9 [.bool false] (↑x1.len:Int) (↑x1.len:Int)) λx2=>sh (iV n (ak x0) x2 0) λx3=>AI x2
abbrev ahR (n:Nat):cA:=eN 69 [.agg [.sl,.int .i64]] [aU] (oD n)
abbrev akf:=L1 [0,1,0,1,1] [(1,aB),(3,aU),(4,av)] [] ([4,5,6,7]++rG 12 48) 0 iV
abbrev akg:=L1 (bL 2635) [(1,aB),(3,aU),(4,av),(5,av)] [] ([5,6,7]++rG 19 41) 2 iU
abbrev akh:=L1 (bL 365131) [(1,aB),(3,aU),(4,av),(5,av),(6,aU),(7,av)] [] ([7]++rG 41 19) 4 fY
def NV:=dR [(8,[1,3,7,0,2,4,5,6,8,9,10,11])]
def WX (n:Nat):=akh.k TZp Tryz.f69 n (dr:=NV) (hT:=λm _=>.m1 (K7 m))
def WY (n:Nat):=akg.k TZp Tryz.f69 n (dr:=NV) (hT:=λm _=>.m2 (K7 m) (.cc (WX m) .nil))
def WZ (n:Nat):=akf.k TZp Tryz.f69 n (dr:=NV) (hT:=λm _=>.m2 (K7 m) (.cc (WY m) .nil))
def Br (n:Nat):aC TZp (ahR n):=aL Tryz.f69 (dr:=NV) (hT:=.m2 (K7 n) (.cc (WZ n) .nil))
structure aF where
 ju:Addr->Addr->ζ->Sl->Int->Int->M Unit
 jv:Addr->ζ->Sl->Int->M ζ
 jx:Addr->Addr->ζ->Sl->Int->M Sl
 gY:(Sl×Int)->Int->M ζ
def rB (G:aF)(n:Nat)(a0 a1:Addr)(a2:ζ)(a3:Sl)(a4 a5:Int):M Unit:=iX a3 a5 1 λx0=>iX a3 (i64.wrap (a5-1)) 1 λx1=>eT x0 λx2=>eT x1 λx3=>iX a3 (i64.wrap (a5-1)) 1 λx4=>sN x4 [.string x2] λx5=>iX a3 a5 1 λx6=>sN x6 [.string x3] λx7=>G.ju a0 a1 a2 a3 a4 (i64.wrap (a5-1))
def AJ (G:aF)(n:Nat)(a0 a1:Addr)(a2:ζ)(a3:Sl)(a4 a5:Int):M Unit:=lI a1 0 λx0=>if decide (x0=10) then lB a1 2 λx1=>if !x1 then if decide (0<a5) then iX a3 a5 1 λx2=>iX a3 (i64.wrap (a5-1)) 1 λx3=>eT x2 λx4=>eT x3 λx5=>if LC x4 x5 then rB G n a0 a1 a2 a3 a4 a5 else AI () else AI () else AI () else AI ()
def o5 (G:aF)(n:Nat)(a0:Addr)(a1:ζ)(a2:Sl)(a3:Int):M ζ:=if decide (a3<(↑a2.len:Int)) then iX a2 a3 1 λx0=>eT x0 λx1=>sh (mG a1 x1) λx2=>G.jv a0 x2 a2 (i64.wrap (a3+1)) else AI a1
def mr (G:aF)(n:Nat)(a0 a1:Addr)(a2:ζ)(a3:Sl)(a4:Int)(a5:ζ):M Sl:=sh (app false a3 1 uo 1 [.string a5]) λx0=>sh (G.ju a0 a1 a2 x0 a4 (i64.wrap ((↑x0.len:Int)-1))) λx1=>G.jx a0 a1 a2 x0 (i64.wrap (a4+1))
def o6 (G:aF)(n:Nat)(a0 a1:Addr)(a2:ζ)(a3:Sl)(a4:Int):M Sl:=lS a1 4 λx0=>if decide (a4<(↑x0.len:Int)) then gL a0 λx1=>lS a1 4 λx2=>iX x2 a4 1 λx3=>eI x3 λx4=>sh (G.gY (x1.1,x1.2) x4) λx5=>lI a1 0 λx6=>if decide (x6=10) then gL a0 λx7=>lS a1 3 λx8=>iX x8 a4 1 λx9=>eI x9 λcH=>sh (G.gY (x7.1,x7.2) cH) λx11=>sh (mG x11 x5) λx12=>mr G n a0 a1 a2 a3 a4 x12 else mr G n a0 a1 a2 a3 a4 x5 else AI a3
def rC (G:aF)(n:Nat)(a0:Sl×Int)(a1:Int):M ζ:=nW ai [aA a0.1,vi a0.2] λx0=>lS (ak x0) 0 λx1=>iX x1 a1 5 λx2=>nL x2 λx3=>nW ar [vi 0,.string (ofBytes []),.bool false,aI,aI] λx4=>sN (ak x4) [vi x3.1,.string x3.2.1,.bool x3.2.2.1,aA x3.2.2.2.1,aA x3.2.2.2.2] λx5=>lI (ak x4) 0 λx6=>lI (ak x4) 0 λx7=>sh (jG (ofBytes [97,98,99,100,101,102,103,104,105,106,107,108]) x6 (i64.wrap (x7+1))) λx8=>lT (ak x4) 1 λx9=>lT (ak x4) 1 λcH=>lS (ak x4) 4 λx11=>sh (sM [some ((ak x4).plus 0),some ((ak x4).plus 0),some ((ak x4).plus 1),some ((ak x4).plus 4)] (gC n (↑(ByteArray.size x9):Int))) λx12=>sh (mG x8 x12) λx13=>sh (mG x13 (ofBytes [58])) λx14=>sh (mG x14 cH) λx15=>sh (sM [some ((ak x4).plus 0),some ((ak x4).plus 0),some ((ak x4).plus 1)] (gC n (↑x11.len:Int))) λx16=>sh (mG x15 x16) λx17=>sh (mG x17 (ofBytes [40])) λx18=>sh (G.jx (ak x0) (ak x4) x18 oz 0) λx19=>sh (G.jv (ak x4) x18 x19 0) λx20=>lB (ak x4) 2 λx21=>if x21 then sh (mG x20 (ofBytes [41,33])) λx22=>AI x22 else sh (mG x20 (ofBytes [41])) λx22=>AI x22
def aF.at:Nat->aF|0=>⟨λ_ _ _ _ _ _=>AS,λ_ _ _ _=>AS,λ_ _ _ _ _=>AS,λ_ _=>AS⟩|n+1=>⟨AJ (aF.at n) n,o5 (aF.at n) n,o6 (aF.at n) n,rC (aF.at n) n⟩
def ju (n:Nat):=(aF.at n).ju
def jv (n:Nat):=(aF.at n).jv
def jx (n:Nat):=(aF.at n).jx
def gY (n:Nat):=(aF.at n).gY
def Ab (n:Nat):=rB (aF.at n) n
def Ac (n:Nat):=mr (aF.at n) n
abbrev aaW (n:Nat):cA:=eN 70 [.agg [.sl,.int .i64],av] [mV] (gY n)
abbrev aki:=L1 (bL 175) [(2,aB),(5,aB),(6,mV),(7,aU),(8,av)] [(7,aU)] ([7,8,9,10]++rG 38 75) 0 jx
abbrev akj:=L1 (bL 96559) [(2,aB),(5,aB),(6,mV),(7,aU),(8,av),(10,av)] [] ([10]++rG 71 42) 2 ju
abbrev akk:=L1 (bL 351) [(5,aB),(6,mV),(7,aU),(11,av)] [(6,mV)] ([6,11]++rG 113 12) 4 jv
abbrev C8 (n:Nat):List cA:=aaW n::C7 n
def NY:=dR [(2,[0,2,6,12,15,1,3,4,5,7,8,13,16,17,17014004002009,10,11,14,14004002018,19,20,21]),(7,[1,3,0,2,4,5,6,7]),(9,[1,3,7,0,2,4,5,6,8,9]),(12,rG 0 16++[17,18,19,20,16,21,22,23]),(14,rG 0 8++[9,10,11,12,8]++rG 13 5)]
abbrev W1 (n:Nat):List (gO Unit):=[jN (bL 1210671) [.au 3,.code (bL 948527)] [(2,aB),(5,aB),(6,mV),(7,aU),(8,av),(10,av)] (Ab n)]
abbrev W4 (n:Nat):List (gO Sl):=[jN (bL 22831) [.code (bL 31023),.au 1,.code (bL 1839)] [(2,aB),(5,aB),(6,mV),(7,aU),(8,av),(9,mV)] (Ac n)]
def fK (n:Nat):Prop:=aC TZp (aaW n)
def aaX (n:Nat)(H:fK n):cS TZp (C8 n):=.cons H (K7 n)
def W5 (n:Nat)(H:∀m,m<n->fK m):=akj.k TZp Tryz.f70 n (dr:=NY) (jt:=W1) (hT:=λm hm=>.m3 (aaX m (H m hm)) (.cc .nil))
def W6 (n:Nat)(H:∀m,m<n->fK m):=akk.k TZp Tryz.f70 n (dr:=NY) (hT:=λm hm=>.m1 (aaX m (H m hm)))
def W7 (n:Nat)(H:∀m,m<n->fK m):=aki.k TZp Tryz.f70 n (dr:=NY) (jt:=W4) (hT:=λm hm=>⟨.nil,aaX m (H m hm),.nil,(.cc (W5 m (λk hk=>H k (anE hk hm))) .nil),(.cc .nil)⟩)
def yK (n:Nat)(H:∀m,m<n+1->fK m):aC TZp (aaW (n+1)):=aL Tryz.f70 (dr:=NY) (hT:=.m2 (aaX n (H n (IT n))) (.cc (W7 n (λk hk=>H k (adX hk))) (.cc (W6 n (λk hk=>H k (adX hk))) .nil)))
def Ad:∀n m,m<n->fK m:=uq (P:=fK) (eJ Tryz.f70) λk h=>yK k h
def K8 (n:Nat):cS TZp (C8 n):=aaX n (Ad (n+1) n (IT n))
def o7:pq (Addr->Sl->Bool->Int->Int->M Bool):=λG n a0 a1 a2 a3 a4=>lS a0 0 λx0=>iX x0 a3 5 λx1=>lS x1 4 λx2=>if decide (a4<(↑x2.len:Int)) then if a2 then lS a0 0 λx3=>iX x3 a3 5 λx4=>lS x4 4 λx5=>iX x5 a4 1 λx6=>eI x6 λx7=>iX a1 x7 1 λx8=>eS x8 λx9=>iX x9 a3 1 λcH=>eB cH λx11=>G a0 a1 (!x11) a3 (i64.wrap (a4+1)) else G a0 a1 false a3 (i64.wrap (a4+1)) else AI a2
def jy:=lp o7
theorem yL (n:Nat):jy (n+1)=o7 (jy n) n:=rfl
def o8:pq (Addr->Sl->Bool->Int->M Bool):=λG n a0 a1 a2 a3=>lS a0 0 λx0=>if decide (a3<(↑x0.len:Int)) then sh (jy n a0 a1 a2 a3 0) λx1=>G a0 a1 x1 (i64.wrap (a3+1)) else AI a2
def jz:=lp o8
theorem yM (n:Nat):jz (n+1)=o8 (jz n) n:=rfl
def o9:pq (Addr->Sl->Int->M Sl):=λG n a0 a1 a2=>lS a0 0 λx0=>if decide (a2<(↑x0.len:Int)) then gL a0 λx1=>sh (jI n (x1.1,x1.2) a2) λx2=>sh (app false a1 1 mW 1 [aA x2]) λx3=>G a0 x3 (i64.wrap (a2+1)) else AI a1
def jA:=lp o9
theorem yN (n:Nat):jA (n+1)=o9 (jA n) n:=rfl
def pV (n:Nat)(a0:Sl×Int):M (Int×Bool):=nW ai [aA a0.1,vi a0.2] λx0=>sh (jA n (ak x0) oz 0) λx1=>sh (jz n (ak x0) x1 true 0) λx2=>sh (bX 13) λx3=>gL (ak x0) λx4=>lS (ak x0) 0 λx5=>lI (ak x0) 1 λx6=>sh (xm (some (x3+5)) an [vi 0] (↑x5.len:Int) (↑x5.len:Int)) λx7=>sh (ia n (x4.1,x4.2) x1 x7 x6) λx8=>AI (i64.wrap (x8-1),x2)
abbrev ahS (n:Nat):cA:=eN 44 [.agg [.sl,.int .i64]] [av,jd] (pV n)
abbrev akl:=L1 [0,1,0,1,1] [(1,aB),(4,aU),(5,av)] [(4,aU)] ([4,5]++rG 9 13) 0 jA
abbrev akm:=L1 (bL 175) [(1,aB),(4,aU),(6,jd),(7,av)] [(6,jd)] ([6,7,8]++rG 22 37) 2 jz
abbrev akn:=L1 (bL 10543) [(1,aB),(4,aU),(6,jd),(7,av),(8,av)] [(6,jd)] ([6,8]++rG 29 30) 4 jy
def NZ:=dR [(14,[1,2,6,10,0,3,4,7,5,8,9,11,12])]
def W8 (n:Nat):=akn.k TZp Tryz.f44 n (dr:=NZ) (hT:=λm _=>.m1 (K8 m))
def W9 (n:Nat):=akm.k TZp Tryz.f44 n (dr:=NZ) (hT:=λm _=>.m2 (K8 m) (.cc (W8 m) .nil))
def Xa (n:Nat):=akl.k TZp Tryz.f44 n (dr:=NZ) (hT:=λm _=>.m1 (K8 m))
def Cr (n:Nat):aC TZp (ahS n):=aL Tryz.f44 (dr:=NZ) (hT:=.m2 (K8 n) (.cc (Xa n) (.cc (W9 n) .nil)))
def lM:pq (Addr->Addr->Int->M (Unit⊕Bool)):=λG n a0 a1 a2=>lS a0 0 λx0=>if decide (a2<(↑x0.len:Int)) then sh (bX 14) λx1=>lS a0 0 λx2=>iX x2 a2 5 λx3=>nL x3 λx4=>lS a1 0 λx5=>iX x5 a2 5 λx6=>nL x6 λx7=>sh (gG (some (x1+10)) ar [vi 0,.string (ofBytes []),.bool false,aI,aI]) λx8=>sh (gG (some (x1+11)) ar [vi 0,.string (ofBytes []),.bool false,aI,aI]) λx9=>sh (sM [some (a1.plus 0),some x6] (sL (ak x8) [vi x4.1,.string x4.2.1,.bool x4.2.2.1,aA x4.2.2.2.1,aA x4.2.2.2.2])) λcH=>sN (ak x9) [vi x7.1,.string x7.2.1,.bool x7.2.2.1,aA x7.2.2.2.1,aA x7.2.2.2.2] λx11=>lI (ak x8) 0 λx12=>lI (ak x9) 0 λx13=>if !decide (x12=x13) then AI (Sum.inr false) else lT (ak x8) 1 λx14=>lT (ak x9) 1 λx15=>if !oG x14 x15 then AI (Sum.inr false) else lB (ak x8) 2 λx16=>lB (ak x9) 2 λx17=>if !x16==x17 then AI (Sum.inr false) else lS (ak x8) 3 λx18=>lS (ak x9) 3 λx19=>sh (nE n x18 x19) λx20=>if !x20 then AI (Sum.inr false) else lS (ak x8) 4 λx21=>lS (ak x9) 4 λx22=>sh (nE n x21 x22) λx23=>if !x23 then AI (Sum.inr false) else G a0 a1 (i64.wrap (a2+1)) else AI (Sum.inl ())
def gj:=lp lM
theorem vP (n:Nat):gj (n+1)=lM (gj n) n:=rfl
def lN (n:Nat)(a0 a1:Sl×Int):M Bool:=nW ai [aA a0.1,vi a0.2] λx0=>nW ai [aA a1.1,vi a1.2] λx1=>lS (ak x0) 0 λx2=>lS (ak x1) 0 λx3=>if !decide ((↑x2.len:Int)=(↑x3.len:Int)) then AI false else lI (ak x0) 1 λx4=>lI (ak x1) 1 λx5=>if !decide (x4=x5) then AI false else sh (gj n (ak x0) (ak x1) 0) (aK (λx6=>AI true) (λx6=>AI x6))
abbrev ahT (n:Nat):cA:=eN 19 [.agg [.sl,.int .i64],.agg [.sl,.int .i64]] [jd] (lN n)
abbrev ako:=L2 [0,1,0,1,1] [(2,aB),(3,aB),(5,av)] [] [(4,jd)] ([4,5,6,7]++rG 22 52) 0 .ret gj
def aaY:=dR [(6,[0,2,5,7,1,3,4,6,8,9,10,11,10007012,13])]
def Xb (n:Nat):=ako.k TZp Tryz.f19 n (dr:=aaY) (hT:=λm _=>.m1 (K8 m))
def zk (n:Nat):aC TZp (ahT n):=aL Tryz.f19 (dr:=aaY) (hT:=.m2 (K8 n) (.cc (Xb n) .nil))
def uK (n:Nat)(a0 a1:ζ):M Int:=AS
def oE (n:Nat)(a0:Int)(a1 a2:ζ):M Int:=if decide (a0=2) then AS else if decide (a0=3) then AS else if decide (a0=4) then if oG a1 a2 then if oG a1 a2 then AI 0 else if oG a2 (ofBytes [110,97,110]) then AI (-1) else AI 1 else if oG a1 (ofBytes [110,97,110]) then if oG a1 a2 then AI 0 else if oG a2 (ofBytes [110,97,110]) then AI (-1) else AI 1 else if oG a2 (ofBytes [110,97,110]) then if oG a1 a2 then AI 0 else if oG a2 (ofBytes [110,97,110]) then AI (-1) else AI 1 else uK n a1 a2 else sh (pQ n a1 a2) λx0=>AI x0
abbrev aaZ (n:Nat):cA:=eN 103 [av,mV,mV] [av] (oE n)
abbrev afp (n:Nat):List (gO Int):=[jN (bL 5621) [.code (bL 7669),.au 0,.code [1,1]] [(1,mV),(2,mV)] (uK n)]
def Bs (n:Nat):aC TZp (aaZ n):=aL Tryz.f103 (js:=afp n) (hT:=.m3 (K8 n) (.cc .nil))
abbrev C9 (n:Nat):List cA:=aaE n::aaF n::aaG n::aaH n::aaI n::aaJ n::aaK n::aaL n::aaM n::aaN n::aaO n::aaP n::aaQ n::ahI n::ahJ n::ahK n::ahL n::aaT n::ahM n::ahN n::ahO n::ahP n::ahQ n::aaV n::ahR n::ahS n::ahT n::aaZ n::C8 n
def K9 (n:Nat):cS TZp (C9 n):=.cons (IH n) (.cons (Em n) (.cons (Qo n) (.cons (Qp n) (.cons (Dt n) (.cons (Ko n) (.cons (Hq n) (.cons (Qq n) (.cons (II n) (.cons (Co n) (.cons (qY n) (.cons (IJ n) (.cons (Kp n) (.cons (Kq n) (.cons (Er n) (.cons (NU n) (.cons (yI n) (.cons (Cp n) (.cons (Hr n) (.cons (xJ n) (.cons (w9 n) (.cons (Gl n) (.cons (IK n) (.cons (Fu n) (.cons (Br n) (.cons (Cr n) (.cons (zk n) (.cons (Bs n) (K8 n))))))))))))))))))))))))))))
def sV (n:Nat)(a0:ζ):M Bool:=sh (sd n a0) λx0=>nW aH [.bool false,aI] λx1=>sN (ak x1) [.bool x0.1.1,aA x0.1.2] λx2=>AI x0.2
abbrev ahU (n:Nat):cA:=eN 73 [mV] [jd] (sV n)
def Hs (n:Nat):aC TZp (ahU n):=aL Tryz.f73 (hT:=.m1 (K9 n))
def sk (n:Nat)(a0:Bool×Sl×Int):M ζ:=nW bB [.bool a0.1,aA a0.2.1,vi a0.2.2] λx0=>sh (cF [.bool,.sl,li] (ak x0)) λ(x1:Bool×Sl×Int)=>lI (ak x0) 2 λx2=>sh (sM [some ((ak x0).plus 2)] (se n (x1.1,x1.2.1,x1.2.2))) λx3=>sh (mG x3 (ofBytes [101])) λx4=>sh (strconv_Itoa n x2) λx5=>sh (mG x4 x5) λx6=>AI x6
abbrev aa0 (n:Nat):cA:=eN 139 [.agg [.bool,.sl,.int .i64]] [mV] (sk n)
def afq:=dR [(1,[3,0,4,5001,2,5,6,7])]
def Et (n:Nat):aC TZp (aa0 n):=aL Tryz.f139 (dr:=afq) (hT:=.m1 (K9 n))
def strings_Cut (n:Nat)(a0 a1:ζ):M (ζ×ζ×Bool):=sh (uH n a0 a1) λx0=>AI (x0.1,x0.2.1,x0.2.2)
abbrev aa1 (n:Nat):cA:=eN 143 [mV,mV] [mV,mV,jd] (strings_Cut n)
def Kr (n:Nat):aC TZp (aa1 n):=aL Tryz.f143 (hT:=.m1 (K9 n))
def Bt (n a0:Nat)(a1:Int):M Bool:=if decide (a1=0) then sh (Du n a0) λx0=>AI (fGt x0 9218868437227405311) else if decide (a1<0) then AI (fGt (aiZ a0) 9218868437227405311) else AI (fGt a0 9218868437227405311)
abbrev aa2 (n:Nat):cA:=eN 187 [.one (.f64),av] [jd] (Bt n)
def L4 (n:Nat):aC TZp (aa2 n):=aL Tryz.f187 (hT:=.m1 (K9 n))
def yO (n a0:Nat):M (Nat×Int):=sh (Du n a0) λx0=>if fLt x0 4503599627370496 then sh (O6 a0 4841369599423283200) λx1=>AI (x1,-52) else AI (a0,0)
abbrev aa3 (n:Nat):cA:=eN 228 [.one (.f64)] [.one (.f64),av] (yO n)
def Gp (n:Nat):aC TZp (aa3 n):=aL Tryz.f228 (hT:=.m1 (K9 n))
def th (n:Nat)(a0 a1:Int):M (Int×Int):=sh (dm n a0) λx0=>sh (qT (decide (0<=x0))) λx1=>AI (a0.fdiv (2^min (Int.toNat x0) 64),i64.wrap (i64.wrap (a1-1075)+x0))
def Bu (n a0:Nat):M (Int×Int):=sh (Du n a0) λx0=>sh (fU n x0) λx1=>sh (qT (decide (0<=52))) λx2=>if decide (i64.wrap (Int.fdiv x1 (2^52))=0) then th n (IntKind.u64.wrap (↑(BitVec.ofInt 64 x1&&&BitVec.ofInt 64 4503599627370495).toNat:Int)) 1 else th n (IntKind.u64.wrap (↑(BitVec.ofInt 64 (IntKind.u64.wrap (↑(BitVec.ofInt 64 x1&&&BitVec.ofInt 64 4503599627370495).toNat:Int))|||BitVec.ofInt 64 4503599627370496).toNat:Int)) (i64.wrap (Int.fdiv x1 (2^52)))
abbrev aa4 (n:Nat):cA:=eN 188 [.one (.f64)] [.one (.int .u64),av] (Bu n)
abbrev afr (n:Nat):List (gO (Int×Int)):=[jN [0,1,1,1,1] [.code [1,1,1,1,1]] [(5,.one (.int .u64)),(6,av)] (th n)]
def IM (n:Nat):aC TZp (aa4 n):=aL Tryz.f188 (js:=afr n) (hT:=.m3 (K9 n) (.cc .nil))
def vQ (n:Nat)(x:ξ)(a0:Sl)(a1 a2:Int):M Bool:=if tU dZ x then sh (sB [aB,aB,aB] x) λ(c:Addr×Addr×Addr)=>jY n a0 a1 a2 c.1 c.2.1 c.2.2 else AS
def vR (n:Nat)(x:ξ)(a0:Sl)(a1 a2:Int):M Bool:=if tU dZ x then sh (sB [aB,aB,aB] x) λ(c:Addr×Addr×Addr)=>jY n a0 a1 a2 c.1 c.2.1 c.2.2 else AS
def uL (n:Nat)(x:ξ)(a0:Sl)(a1 a2:Int):M Bool:=if tU dZ x then sh (sB [aB,aB,aB] x) λ(c:Addr×Addr×Addr)=>jY n a0 a1 a2 c.1 c.2.1 c.2.2 else AS
def nF:pq (Addr->Addr->Addr->Addr->ξ->Int->M Unit):=λG n a0 a1 a2 a3 a4 a5=>if decide (a5<9) then lI a2 9 λx0=>sN (a2.plus 9) [vi (i64.wrap (x0*10))] λx1=>G a0 a1 a2 a3 a4 (i64.wrap (a5+1)) else AI ()
def qo:=lp nF
abbrev zE:=Addr->Addr->Addr->Addr->ξ->Int->M Int
def rD (G:zE)(n:Nat)(a0 a1 a2 a3:Addr)(a4:ξ)(a5:Int):M Int:=lI a2 9 λx0=>eT a0 λx1=>eI a3 λx2=>sh (qc x1 x2) λx3=>sN (a2.plus 9) [vi (i64.wrap (i64.wrap (10*x0)+i64.wrap (IntKind.u8.wrap ((↑x3.toNat:Int)-48))))] λx4=>eI a3 λx5=>sN a3 [vi (i64.wrap (x5+1))] λx6=>G a0 a1 a2 a3 a4 (i64.wrap (a5+1))
def nG:pq (zE):=λG n a0 a1 a2 a3 a4 a5=>if decide (a5<9) then eI a3 λx0=>eT a0 λx1=>if decide (x0<(↑(ByteArray.size x1):Int)) then eT a0 λx2=>eI a3 λx3=>sh (qc x2 x3) λx4=>if decide (48<=(↑x4.toNat:Int)) then eT a0 λx5=>eI a3 λx6=>sh (qc x5 x6) λx7=>if decide ((↑x7.toNat:Int)<=57) then rD G n a0 a1 a2 a3 a4 a5 else AI a5 else AI a5 else AI a5 else AI a5
def na:=lp nG
def Fv (n:Nat):=rD (na n) n
def tj (n:Nat)(a0 a1 a2 a3:Addr)(a4:ξ):M ((J11)×Bool):=eT a0 λx0=>eI a3 λx1=>sh (qc x0 x1) λx2=>sN (a2.plus 10) [.int IntKind.u8 (↑x2.toNat:Int)] λx3=>eI a3 λx4=>sN a3 [vi (i64.wrap (x4+1))] λx5=>sh (dz (.int IntKind.u8) (a2.plus 10)) λ(x6:Int)=>if decide (x6=90) then sh (cF [li,li,li,li,li,li,li,li,li,li,.int IntKind.u8] a2) λ(x7:J11)=>eI a3 λx8=>eT a0 λx9=>sh (sM [some a3,some a0] (sL a1 [vi x7.1,vi x7.2.1,vi x7.2.2.1,vi x7.2.2.2.1,vi x7.2.2.2.2.1,vi x7.2.2.2.2.2.1,vi x7.2.2.2.2.2.2.1,vi x7.2.2.2.2.2.2.2.1,vi x7.2.2.2.2.2.2.2.2.1,vi x7.2.2.2.2.2.2.2.2.2.1,.int IntKind.u8 x7.2.2.2.2.2.2.2.2.2.2])) λcH=>sh (cF [li,li,li,li,li,li,li,li,li,li,.int IntKind.u8] a1) λ(x11:J11)=>AI ((x11.1,x11.2.1,x11.2.2.1,x11.2.2.2.1,x11.2.2.2.2.1,x11.2.2.2.2.2.1,x11.2.2.2.2.2.2.1,x11.2.2.2.2.2.2.2.1,x11.2.2.2.2.2.2.2.2.1,x11.2.2.2.2.2.2.2.2.2.1,x11.2.2.2.2.2.2.2.2.2.2),decide (x8=(↑(ByteArray.size x9):Int))) else sh (dz (.int IntKind.u8) (a2.plus 10)) λ(x7:Int)=>if !decide (x7=43) then sh (dz (.int IntKind.u8) (a2.plus 10)) λ(x8:Int)=>if !decide (x8=45) then sh (cF [li,li,li,li,li,li,li,li,li,li,.int IntKind.u8] a2) λ(x9:J11)=>sN a1 [vi x9.1,vi x9.2.1,vi x9.2.2.1,vi x9.2.2.2.1,vi x9.2.2.2.2.1,vi x9.2.2.2.2.2.1,vi x9.2.2.2.2.2.2.1,vi x9.2.2.2.2.2.2.2.1,vi x9.2.2.2.2.2.2.2.2.1,vi x9.2.2.2.2.2.2.2.2.2.1,.int IntKind.u8 x9.2.2.2.2.2.2.2.2.2.2] λcH=>sh (cF [li,li,li,li,li,li,li,li,li,li,.int IntKind.u8] a1) λ(x11:J11)=>AI ((x11.1,x11.2.1,x11.2.2.1,x11.2.2.2.1,x11.2.2.2.2.1,x11.2.2.2.2.2.1,x11.2.2.2.2.2.2.1,x11.2.2.2.2.2.2.2.1,x11.2.2.2.2.2.2.2.2.1,x11.2.2.2.2.2.2.2.2.2.1,x11.2.2.2.2.2.2.2.2.2.2),false) else sh (qG (a2.plus 1) 8 6 8 1) λx9=>sh (uL n a4 x9 2 58) λcH=>if !cH then sh (cF [li,li,li,li,li,li,li,li,li,li,.int IntKind.u8] a2) λ(x11:J11)=>sN a1 [vi x11.1,vi x11.2.1,vi x11.2.2.1,vi x11.2.2.2.1,vi x11.2.2.2.2.1,vi x11.2.2.2.2.2.1,vi x11.2.2.2.2.2.2.1,vi x11.2.2.2.2.2.2.2.1,vi x11.2.2.2.2.2.2.2.2.1,vi x11.2.2.2.2.2.2.2.2.2.1,.int IntKind.u8 x11.2.2.2.2.2.2.2.2.2.2] λx12=>sh (cF [li,li,li,li,li,li,li,li,li,li,.int IntKind.u8] a1) λ(x13:J11)=>AI ((x13.1,x13.2.1,x13.2.2.1,x13.2.2.2.1,x13.2.2.2.2.1,x13.2.2.2.2.2.1,x13.2.2.2.2.2.2.1,x13.2.2.2.2.2.2.2.1,x13.2.2.2.2.2.2.2.2.1,x13.2.2.2.2.2.2.2.2.2.1,x13.2.2.2.2.2.2.2.2.2.2),false) else sh (cF [li,li,li,li,li,li,li,li,li,li,.int IntKind.u8] a2) λ(x11:J11)=>eI a3 λx12=>eT a0 λx13=>sh (sM [some a3,some a0] (sL a1 [vi x11.1,vi x11.2.1,vi x11.2.2.1,vi x11.2.2.2.1,vi x11.2.2.2.2.1,vi x11.2.2.2.2.2.1,vi x11.2.2.2.2.2.2.1,vi x11.2.2.2.2.2.2.2.1,vi x11.2.2.2.2.2.2.2.2.1,vi x11.2.2.2.2.2.2.2.2.2.1,.int IntKind.u8 x11.2.2.2.2.2.2.2.2.2.2])) λx14=>sh (cF [li,li,li,li,li,li,li,li,li,li,.int IntKind.u8] a1) λ(x15:J11)=>AI ((x15.1,x15.2.1,x15.2.2.1,x15.2.2.2.1,x15.2.2.2.2.1,x15.2.2.2.2.2.1,x15.2.2.2.2.2.2.1,x15.2.2.2.2.2.2.2.1,x15.2.2.2.2.2.2.2.2.1,x15.2.2.2.2.2.2.2.2.2.1,x15.2.2.2.2.2.2.2.2.2.2),decide (x12=(↑(ByteArray.size x13):Int))) else sh (qG (a2.plus 1) 8 6 8 1) λx8=>sh (uL n a4 x8 2 58) λx9=>if !x9 then sh (cF [li,li,li,li,li,li,li,li,li,li,.int IntKind.u8] a2) λ(cH:J11)=>sN a1 [vi cH.1,vi cH.2.1,vi cH.2.2.1,vi cH.2.2.2.1,vi cH.2.2.2.2.1,vi cH.2.2.2.2.2.1,vi cH.2.2.2.2.2.2.1,vi cH.2.2.2.2.2.2.2.1,vi cH.2.2.2.2.2.2.2.2.1,vi cH.2.2.2.2.2.2.2.2.2.1,.int IntKind.u8 cH.2.2.2.2.2.2.2.2.2.2] λx11=>sh (cF [li,li,li,li,li,li,li,li,li,li,.int IntKind.u8] a1) λ(x12:J11)=>AI ((x12.1,x12.2.1,x12.2.2.1,x12.2.2.2.1,x12.2.2.2.2.1,x12.2.2.2.2.2.1,x12.2.2.2.2.2.2.1,x12.2.2.2.2.2.2.2.1,x12.2.2.2.2.2.2.2.2.1,x12.2.2.2.2.2.2.2.2.2.1,x12.2.2.2.2.2.2.2.2.2.2),false) else sh (cF [li,li,li,li,li,li,li,li,li,li,.int IntKind.u8] a2) λ(cH:J11)=>eI a3 λx11=>eT a0 λx12=>sh (sM [some a3,some a0] (sL a1 [vi cH.1,vi cH.2.1,vi cH.2.2.1,vi cH.2.2.2.1,vi cH.2.2.2.2.1,vi cH.2.2.2.2.2.1,vi cH.2.2.2.2.2.2.1,vi cH.2.2.2.2.2.2.2.1,vi cH.2.2.2.2.2.2.2.2.1,vi cH.2.2.2.2.2.2.2.2.2.1,.int IntKind.u8 cH.2.2.2.2.2.2.2.2.2.2])) λx13=>sh (cF [li,li,li,li,li,li,li,li,li,li,.int IntKind.u8] a1) λ(x14:J11)=>AI ((x14.1,x14.2.1,x14.2.2.1,x14.2.2.2.1,x14.2.2.2.2.1,x14.2.2.2.2.2.1,x14.2.2.2.2.2.2.1,x14.2.2.2.2.2.2.2.1,x14.2.2.2.2.2.2.2.2.1,x14.2.2.2.2.2.2.2.2.2.1,x14.2.2.2.2.2.2.2.2.2.2),decide (x11=(↑(ByteArray.size x12):Int)))
def nf (n:Nat)(a0 a1 a2 a3:Addr)(a4:ξ):M ((J11)×Bool):=eI a3 λx0=>eT a0 λx1=>if decide (x0<(↑(ByteArray.size x1):Int)) then lI a2 0 λx2=>if decide (x2=3) then tj n a0 a1 a2 a3 a4 else sh (cF [li,li,li,li,li,li,li,li,li,li,.int IntKind.u8] a2) λ(x3:J11)=>eI a3 λx4=>eT a0 λx5=>sh (sM [some a3,some a0] (sL a1 [vi x3.1,vi x3.2.1,vi x3.2.2.1,vi x3.2.2.2.1,vi x3.2.2.2.2.1,vi x3.2.2.2.2.2.1,vi x3.2.2.2.2.2.2.1,vi x3.2.2.2.2.2.2.2.1,vi x3.2.2.2.2.2.2.2.2.1,vi x3.2.2.2.2.2.2.2.2.2.1,.int IntKind.u8 x3.2.2.2.2.2.2.2.2.2.2])) λx6=>sh (cF [li,li,li,li,li,li,li,li,li,li,.int IntKind.u8] a1) λ(x7:J11)=>AI ((x7.1,x7.2.1,x7.2.2.1,x7.2.2.2.1,x7.2.2.2.2.1,x7.2.2.2.2.2.1,x7.2.2.2.2.2.2.1,x7.2.2.2.2.2.2.2.1,x7.2.2.2.2.2.2.2.2.1,x7.2.2.2.2.2.2.2.2.2.1,x7.2.2.2.2.2.2.2.2.2.2),decide (x4=(↑(ByteArray.size x5):Int))) else sh (cF [li,li,li,li,li,li,li,li,li,li,.int IntKind.u8] a2) λ(x2:J11)=>eI a3 λx3=>eT a0 λx4=>sh (sM [some a3,some a0] (sL a1 [vi x2.1,vi x2.2.1,vi x2.2.2.1,vi x2.2.2.2.1,vi x2.2.2.2.2.1,vi x2.2.2.2.2.2.1,vi x2.2.2.2.2.2.2.1,vi x2.2.2.2.2.2.2.2.1,vi x2.2.2.2.2.2.2.2.2.1,vi x2.2.2.2.2.2.2.2.2.2.1,.int IntKind.u8 x2.2.2.2.2.2.2.2.2.2.2])) λx5=>sh (cF [li,li,li,li,li,li,li,li,li,li,.int IntKind.u8] a1) λ(x6:J11)=>AI ((x6.1,x6.2.1,x6.2.2.1,x6.2.2.2.1,x6.2.2.2.2.1,x6.2.2.2.2.2.1,x6.2.2.2.2.2.2.1,x6.2.2.2.2.2.2.2.1,x6.2.2.2.2.2.2.2.2.1,x6.2.2.2.2.2.2.2.2.2.1,x6.2.2.2.2.2.2.2.2.2.2),decide (x3=(↑(ByteArray.size x4):Int)))
def tn (n:Nat)(a0 a1 a2 a3:Addr)(a4:ξ):M ((J11)×Bool):=eI a3 λx0=>sN a3 [vi (i64.wrap (x0+1))] λx1=>sh (na n a0 a1 a2 a3 a4 0) λx2=>if decide (x2=0) then sh (cF [li,li,li,li,li,li,li,li,li,li,.int IntKind.u8] a2) λ(x3:J11)=>sN a1 [vi x3.1,vi x3.2.1,vi x3.2.2.1,vi x3.2.2.2.1,vi x3.2.2.2.2.1,vi x3.2.2.2.2.2.1,vi x3.2.2.2.2.2.2.1,vi x3.2.2.2.2.2.2.2.1,vi x3.2.2.2.2.2.2.2.2.1,vi x3.2.2.2.2.2.2.2.2.2.1,.int IntKind.u8 x3.2.2.2.2.2.2.2.2.2.2] λx4=>sh (cF [li,li,li,li,li,li,li,li,li,li,.int IntKind.u8] a1) λ(x5:J11)=>AI ((x5.1,x5.2.1,x5.2.2.1,x5.2.2.2.1,x5.2.2.2.2.1,x5.2.2.2.2.2.1,x5.2.2.2.2.2.2.1,x5.2.2.2.2.2.2.2.1,x5.2.2.2.2.2.2.2.2.1,x5.2.2.2.2.2.2.2.2.2.1,x5.2.2.2.2.2.2.2.2.2.2),false) else sh (qo n a0 a1 a2 a3 a4 x2) λx3=>nf n a0 a1 a2 a3 a4
def gS (n:Nat)(a0 a1 a2 a3:Addr)(a4:ξ):M ((J11)×Bool):=sh (qG (a2.plus 1) 8 3 6 1) λx0=>sh (vR n a4 x0 2 58) λx1=>if !x1 then sh (cF [li,li,li,li,li,li,li,li,li,li,.int IntKind.u8] a2) λ(x2:J11)=>sN a1 [vi x2.1,vi x2.2.1,vi x2.2.2.1,vi x2.2.2.2.1,vi x2.2.2.2.2.1,vi x2.2.2.2.2.2.1,vi x2.2.2.2.2.2.2.1,vi x2.2.2.2.2.2.2.2.1,vi x2.2.2.2.2.2.2.2.2.1,vi x2.2.2.2.2.2.2.2.2.2.1,.int IntKind.u8 x2.2.2.2.2.2.2.2.2.2.2] λx3=>sh (cF [li,li,li,li,li,li,li,li,li,li,.int IntKind.u8] a1) λ(x4:J11)=>AI ((x4.1,x4.2.1,x4.2.2.1,x4.2.2.2.1,x4.2.2.2.2.1,x4.2.2.2.2.2.1,x4.2.2.2.2.2.2.1,x4.2.2.2.2.2.2.2.1,x4.2.2.2.2.2.2.2.2.1,x4.2.2.2.2.2.2.2.2.2.1,x4.2.2.2.2.2.2.2.2.2.2),false) else lI a2 0 λx2=>sN (a2.plus 0) [vi (i64.wrap (x2+2))] λx3=>eI a3 λx4=>eT a0 λx5=>if decide (x4<(↑(ByteArray.size x5):Int)) then eT a0 λx6=>eI a3 λx7=>sh (qc x6 x7) λx8=>if decide ((↑x8.toNat:Int)=46) then tn n a0 a1 a2 a3 a4 else nf n a0 a1 a2 a3 a4 else nf n a0 a1 a2 a3 a4
def qp (n:Nat)(a0 a1 a2 a3:Addr)(a4:ξ):M ((J11)×Bool):=sh (qG (a2.plus 1) 8 0 3 1) λx0=>sh (vQ n a4 x0 4 45) λx1=>if !x1 then sh (cF [li,li,li,li,li,li,li,li,li,li,.int IntKind.u8] a2) λ(x2:J11)=>sN a1 [vi x2.1,vi x2.2.1,vi x2.2.2.1,vi x2.2.2.2.1,vi x2.2.2.2.2.1,vi x2.2.2.2.2.2.1,vi x2.2.2.2.2.2.2.1,vi x2.2.2.2.2.2.2.2.1,vi x2.2.2.2.2.2.2.2.2.1,vi x2.2.2.2.2.2.2.2.2.2.1,.int IntKind.u8 x2.2.2.2.2.2.2.2.2.2.2] λx3=>sh (cF [li,li,li,li,li,li,li,li,li,li,.int IntKind.u8] a1) λ(x4:J11)=>AI ((x4.1,x4.2.1,x4.2.2.1,x4.2.2.2.1,x4.2.2.2.2.1,x4.2.2.2.2.2.1,x4.2.2.2.2.2.2.1,x4.2.2.2.2.2.2.2.1,x4.2.2.2.2.2.2.2.2.1,x4.2.2.2.2.2.2.2.2.2.1,x4.2.2.2.2.2.2.2.2.2.2),false) else sN (a2.plus 0) [vi 1] λx2=>eI a3 λx3=>eT a0 λx4=>if decide (x3=(↑(ByteArray.size x4):Int)) then sh (cF [li,li,li,li,li,li,li,li,li,li,.int IntKind.u8] a2) λ(x5:J11)=>sN a1 [vi x5.1,vi x5.2.1,vi x5.2.2.1,vi x5.2.2.2.1,vi x5.2.2.2.2.1,vi x5.2.2.2.2.2.1,vi x5.2.2.2.2.2.2.1,vi x5.2.2.2.2.2.2.2.1,vi x5.2.2.2.2.2.2.2.2.1,vi x5.2.2.2.2.2.2.2.2.2.1,.int IntKind.u8 x5.2.2.2.2.2.2.2.2.2.2] λx6=>sh (cF [li,li,li,li,li,li,li,li,li,li,.int IntKind.u8] a1) λ(x7:J11)=>AI ((x7.1,x7.2.1,x7.2.2.1,x7.2.2.2.1,x7.2.2.2.2.1,x7.2.2.2.2.2.1,x7.2.2.2.2.2.2.1,x7.2.2.2.2.2.2.2.1,x7.2.2.2.2.2.2.2.2.1,x7.2.2.2.2.2.2.2.2.2.1,x7.2.2.2.2.2.2.2.2.2.2),true) else eT a0 λx5=>eI a3 λx6=>sh (qc x5 x6) λx7=>if !decide ((↑x7.toNat:Int)=84) then eT a0 λx8=>eI a3 λx9=>sh (qc x8 x9) λcH=>if !decide ((↑cH.toNat:Int)=32) then sh (cF [li,li,li,li,li,li,li,li,li,li,.int IntKind.u8] a2) λ(x11:J11)=>sN a1 [vi x11.1,vi x11.2.1,vi x11.2.2.1,vi x11.2.2.2.1,vi x11.2.2.2.2.1,vi x11.2.2.2.2.2.1,vi x11.2.2.2.2.2.2.1,vi x11.2.2.2.2.2.2.2.1,vi x11.2.2.2.2.2.2.2.2.1,vi x11.2.2.2.2.2.2.2.2.2.1,.int IntKind.u8 x11.2.2.2.2.2.2.2.2.2.2] λx12=>sh (cF [li,li,li,li,li,li,li,li,li,li,.int IntKind.u8] a1) λ(x13:J11)=>AI ((x13.1,x13.2.1,x13.2.2.1,x13.2.2.2.1,x13.2.2.2.2.1,x13.2.2.2.2.2.1,x13.2.2.2.2.2.2.1,x13.2.2.2.2.2.2.2.1,x13.2.2.2.2.2.2.2.2.1,x13.2.2.2.2.2.2.2.2.2.1,x13.2.2.2.2.2.2.2.2.2.2),false) else eI a3 λx11=>sN a3 [vi (i64.wrap (x11+1))] λx12=>gS n a0 a1 a2 a3 a4 else eI a3 λx8=>sN a3 [vi (i64.wrap (x8+1))] λx9=>gS n a0 a1 a2 a3 a4
def pW (n:Nat)(a0:ζ):M ((J11)×Bool):=nW uo [.string a0] λx0=>nW bO [vi 0,vi 0,vi 0,vi 0,vi 0,vi 0,vi 0,vi 0,vi 0,vi 0,.int IntKind.u8 0] λx1=>nW bO [vi 0,vi 0,vi 0,vi 0,vi 0,vi 0,vi 0,vi 0,vi 0,vi 0,.int IntKind.u8 0] λx2=>nW an [vi 0] λx3=>sN (ak x3) [vi 0] λx4=>nW yw [Value.nilFunc] λx5=>sN (ak x5) [.func (Fn.func rW) #[] #[.pointer (some (ak x3)),.pointer (some (ak x0))]] λx6=>sh (dz .str (ak x0)) λ(x7:ζ)=>if decide (2<(↑(ByteArray.size x7):Int)) then sh (dz .str (ak x0)) λ(x8:ζ)=>sh (qc x8 2) λx9=>if !decide ((↑x9.toNat:Int)=58) then qp n (ak x0) (ak x1) (ak x2) (ak x3) (Value.func (Fn.func dZ) #[] #[.pointer (some (ak x3)),.pointer (some (ak x0)),.pointer (some (ak x5))]) else gS n (ak x0) (ak x1) (ak x2) (ak x3) (Value.func (Fn.func dZ) #[] #[.pointer (some (ak x3)),.pointer (some (ak x0)),.pointer (some (ak x5))]) else gS n (ak x0) (ak x1) (ak x2) (ak x3) (Value.func (Fn.func dZ) #[] #[.pointer (some (ak x3)),.pointer (some (ak x0)),.pointer (some (ak x5))])
abbrev aa5 (n:Nat):cA:=eN 108 [mV] [.agg [.int .i64,.int .i64,.int .i64,.int .i64,.int .i64,.int .i64,.int .i64,.int .i64,.int .i64,.int .i64,.int .u8],jd] (pW n)
abbrev afs:=L1 (bL 39679) [(1,aB),(2,aB),(4,aB),(5,aB),(7,vA),(8,av)] [(8,av)] ([8]++rG 66 34) 0 na
abbrev aft:=L1 (bL 97023) [(1,aB),(2,aB),(4,aB),(5,aB),(7,vA),(8,av)] [] ([8]++rG 103 8) 2 qo
abbrev afu (n:Nat):List tB:=[dN 19 [aU,av,.one (.int .u8)] [jd] (vQ n), dN 44 [aU,av,.one (.int .u8)] [jd] (vR n), dN 143 [aU,av,.one (.int .u8)] [jd] (uL n)]
def N0:=dR [(21,rG 0 11),(33,rG 0 5++[3002005,6]),(36,rG 0 5++[3002005,6])]
abbrev SH (n:Nat):List (gO Int):=[jN (bL 596735) [.code (bL 858879),.au 1] [(1,aB),(2,aB),(4,aB),(5,aB),(7,vA),(8,av)] (Fv n)]
abbrev afv (n:Nat):List (gO ((J11)×Bool)):=[jN (bL 1119) [.code (bL 1631),.code (bL 863),.code (bL 127)] [(1,aB),(2,aB),(4,aB),(5,aB),(7,vA)] (qp n), jN (bL 319) [.code (bL 447),.code (bL 255)] [(1,aB),(2,aB),(4,aB),(5,aB),(7,vA)] (gS n), jN (bL 4863) [.code (bL 6911),.code (bL 1023)] [(1,aB),(2,aB),(4,aB),(5,aB),(7,vA)] (tn n), jN (bL 2559) [.code (bL 3583),.code (bL 2047)] [(1,aB),(2,aB),(4,aB),(5,aB),(7,vA)] (nf n), jN (bL 9727) [.code (bL 13823),.code (bL 2047)] [(1,aB),(2,aB),(4,aB),(5,aB),(7,vA)] (tj n)]
def N4 (n:Nat):sP TZp (afu n):=.cons (dA (.cons (lA [aB,aB,aB] (qY n)) .nil)) (.cons (dA (.cons (lA [aB,aB,aB] (qY n)) .nil)) (.cons (dA (.cons (lA [aB,aB,aB] (qY n)) .nil)) .nil))
def SI (n:Nat):=aft.k TZp Tryz.f108 n (dr:=N0) (hT:=λm _=>⟨.nil,K9 m,(N4 m),.nil,.nil⟩)
def SJ (n:Nat):=afs.k TZp Tryz.f108 n (dr:=N0) (jt:=SH) (hT:=λm _=>⟨.nil,K9 m,(N4 m),.nil,(.cc .nil)⟩)
def IP (n:Nat):aC TZp (aa5 n):=aL Tryz.f108 (dr:=N0) (js:=afv n) (hT:=⟨.nil,K9 n,(N4 n),(.cc (SJ n) (.cc (SI n) .nil)),(.cc (.cc (.cc (.cc (.cc .nil)))))⟩)
def qq:pq (Int->Int->Int->Int->M Int):=λG n a0 a1 a2 a3=>if decide (a3<a1) then sh (pR n a0 a3) λx0=>G a0 a1 (i64.wrap (a2+x0)) (i64.wrap (a3+1)) else AI a2
def lV:=lp qq
theorem tI (n:Nat):lV (n+1)=qq (lV n) n:=rfl
def EJ (n:Nat)(a0 a1 a2:Int):M (Int×Int):=sh (wL n a0) λx0=>sh (lV n a0 a1 (i64.wrap (i64.wrap (i64.wrap (x0+a2)-1)-719528)) 1) λx1=>AI (x1,0)
def Bv (n:Nat)(a0 a1 a2:Int):M (Int×Int):=if decide (a0<0) then AI (0,13) else if decide (9999<a0) then AI (0,13) else if decide (a1<1) then AI (0,13) else if decide (12<a1) then AI (0,13) else if decide (a2<1) then AI (0,13) else sh (pR n a0 a1) λx0=>if decide (x0<a2) then AI (0,13) else EJ n a0 a1 a2
abbrev aa6 (n:Nat):cA:=eN 152 [av,av,av] [av,av] (Bv n)
abbrev afw:=L1 (bL 87) [(0,av),(1,av),(8,av),(9,av)] [(8,av)] ([8,9]++rG 41 10) 0 lV
abbrev afx (n:Nat):List (gO (Int×Int)):=[jN [0,1,1] [.code [1,1,1]] [(0,av),(1,av),(2,av)] (EJ n)]
def SK (n:Nat):=afw.k TZp Tryz.f152 n (hT:=λm _=>.m1 (K9 m))
def L5 (n:Nat):aC TZp (aa6 n):=aL Tryz.f152 (js:=afx n) (hT:=⟨.nil,K9 n,.nil,(.cc (SK n) .nil),(.cc .nil)⟩)
def tq:pq (Int->Int->Int->M (Int×Int)):=λG n a0 a1 a2=>sh (pR n a1 a2) λx0=>if decide (x0<=a0) then sh (pR n a1 a2) λx1=>G (i64.wrap (a0-x1)) a1 (i64.wrap (a2+1)) else AI (a0,a2)
def oh:=lp tq
theorem yP (n:Nat):oh (n+1)=tq (oh n) n:=rfl
def tu:pq (Int->Int->M Int):=λG n a0 a1=>sh (wL n (i64.wrap (a1+1))) λx0=>if decide (x0<=a0) then G a0 (i64.wrap (a1+1)) else AI a1
def oi:=lp tu
theorem yQ (n:Nat):oi (n+1)=tu (oi n) n:=rfl
def Ae (n:Nat)(a0:Int):M (Int×Int×Int×Int):=sh (qT (decide (366≠0))) λx0=>sh (oi n (i64.wrap (a0+719528)) (i64.wrap ((i64.wrap (a0+719528)).tdiv 366))) λx1=>sh (wL n x1) λx2=>sh (oh n (i64.wrap (i64.wrap (a0+719528)-x2)) x1 1) λx3=>AI (x1,x3.2,i64.wrap (x3.1+1),0)
def Fx (n:Nat)(a0:Int):M (Int×Int×Int×Int):=if decide (a0 < -719528) then AI (0,0,0,13) else if decide (2932896<a0) then AI (0,0,0,13) else Ae n a0
abbrev aa7 (n:Nat):cA:=eN 153 [av] [av,av,av,av] (Fx n)
abbrev afy:=L1 (bL 79) [(6,av),(7,av)] [(7,av)] ([7]++rG 19 7) 0 oi
abbrev afz:=L1 (bL 639) [(6,av),(7,av),(8,av)] [(6,av),(8,av)] ([6,8]++rG 30 12) 2 oh
abbrev afA (n:Nat):List (gO (Int×Int×Int×Int)):=[jN [0,1,1] [.code [1,1,1]] [(0,av)] (Ae n)]
def SN (n:Nat):=afz.k TZp Tryz.f153 n (hT:=λm _=>.m1 (K9 m))
def SQ (n:Nat):=afy.k TZp Tryz.f153 n (hT:=λm _=>.m1 (K9 m))
def L6 (n:Nat):aC TZp (aa7 n):=aL Tryz.f153 (js:=afA n) (hT:=⟨.nil,K9 n,.nil,(.cc (SQ n) (.cc (SN n) .nil)),(.cc .nil)⟩)
def iW (n:Nat)(a0:Addr)(a1:ζ):M ζ:=lI a0 9 λx0=>if decide (0<x0) then lI a0 9 λx1=>sh (lU n x1 9) λx2=>sh (iJ n x2 (ofBytes [48])) λx3=>sh (mG (ofBytes [46]) x3) λx4=>sh (mG a1 x4) λx5=>AI x5 else AI a1
def eO (n:Nat)(a0:Addr)(a1:ζ):M ζ:=lI a0 0 λx0=>if !decide (x0=1) then sh (qT (decide (0<=3/\3<(↑8:Int)))) λx1=>sh (qT (decide (0<=4/\4<(↑8:Int)))) λx2=>sh (qT (decide (0<=5/\5<(↑8:Int)))) λx3=>lI (a0.plus 1) 3 λx4=>lI (a0.plus 1) 4 λx5=>lI (a0.plus 1) 5 λx6=>sh (sM [some ((a0.plus 1).plus 4),some ((a0.plus 1).plus 5)] (lU n x4 2)) λx7=>sh (mG x7 (ofBytes [58])) λx8=>sh (sM [some ((a0.plus 1).plus 5)] (lU n x5 2)) λx9=>sh (mG x8 x9) λcH=>sh (mG cH (ofBytes [58])) λx11=>sh (lU n x6 2) λx12=>sh (mG x11 x12) λx13=>sh (mG a1 x13) λx14=>iW n a0 x14 else iW n a0 a1
def lh (n:Nat)(a0:J11):M ζ:=nW bO [vi a0.1,vi a0.2.1,vi a0.2.2.1,vi a0.2.2.2.1,vi a0.2.2.2.2.1,vi a0.2.2.2.2.2.1,vi a0.2.2.2.2.2.2.1,vi a0.2.2.2.2.2.2.2.1,vi a0.2.2.2.2.2.2.2.2.1,vi a0.2.2.2.2.2.2.2.2.2.1,.int IntKind.u8 a0.2.2.2.2.2.2.2.2.2.2] λx0=>lI (ak x0) 0 λx1=>if !decide (x1=2) then sh (qT (decide (0<=0/\0<(↑8:Int)))) λx2=>sh (qT (decide (0<=1/\1<(↑8:Int)))) λx3=>sh (qT (decide (0<=2/\2<(↑8:Int)))) λx4=>sh (dz li (((ak x0).plus 1).plus 0)) λ(x5:Int)=>sh (dz li (((ak x0).plus 1).plus 1)) λ(x6:Int)=>sh (dz li (((ak x0).plus 1).plus 2)) λ(x7:Int)=>sh (sM [some (((ak x0).plus 1).plus 1),some (((ak x0).plus 1).plus 2)] (lU n x5 4)) λx8=>sh (mG x8 (ofBytes [45])) λx9=>sh (sM [some (((ak x0).plus 1).plus 2)] (lU n x6 2)) λcH=>sh (mG x9 cH) λx11=>sh (mG x11 (ofBytes [45])) λx12=>sh (lU n x7 2) λx13=>sh (mG x12 x13) λx14=>lI (ak x0) 0 λx15=>if decide (x15=3) then sh (mG x14 (ofBytes [84])) λx16=>eO n (ak x0) x16 else eO n (ak x0) x14 else lI (ak x0) 0 λx2=>if decide (x2=3) then sh (mG (ofBytes []) (ofBytes [84])) λx3=>eO n (ak x0) x3 else eO n (ak x0) (ofBytes [])
abbrev aa8 (n:Nat):cA:=eN 154 [.agg [.int .i64,.int .i64,.int .i64,.int .i64,.int .i64,.int .i64,.int .i64,.int .i64,.int .i64,.int .i64,.int .u8]] [mV] (lh n)
def afB:=dR [(3,[0,1,5,6,11,12,2,7,13,14008003,4,14008,9,10,14,15,16]),(7,[0,1,2,6,7,12,13,3,8,14,15009004,5,15009,10,11,15,16,17,18])]
abbrev afC (n:Nat):List (gO ζ):=[jN (bL 79) [.code (bL 111),.code [1,1,1,1,1]] [(1,aB),(3,mV)] (eO n), jN (bL 159) [.code (bL 223),.code (bL 127)] [(1,aB),(3,mV)] (iW n)]
def Bw (n:Nat):aC TZp (aa8 n):=aL Tryz.f154 (dr:=afB) (js:=afC n) (hT:=.m3 (K9 n) (.cc (.cc .nil)))
def uM:pq (Addr->Sl->Sl->Int->Int->Sl->Int->Int->M Unit):=λG n a0 a1 a2 a3 a4 a5 a6 a7=>if decide (a7<a6) then iX a5 a7 1 λx0=>eI x0 λx1=>gL a0 λx2=>sh (sT n (x2.1,x2.2) x1 a1) λx3=>G a0 a1 a2 a3 a4 a5 a6 (i64.wrap (a7+1)) else AI ()
def qs:=lp uM
theorem Dw (n:Nat):qs (n+1)=uM (qs n) n:=rfl
def uN:pq (Addr->Sl->Sl->Int->Int->M Unit):=λG n a0 a1 a2 a3 a4=>if decide (a4<a3) then iX a2 a4 5 λx0=>nL x0 λx1=>nW ar [vi 0,.string (ofBytes []),.bool false,aI,aI] λx2=>sN (ak x2) [vi x1.1,.string x1.2.1,.bool x1.2.2.1,aA x1.2.2.2.1,aA x1.2.2.2.2] λx3=>lS (ak x2) 3 λx4=>sh (qs n a0 a1 a2 a3 a4 x4 (↑x4.len:Int) 0) λx5=>G a0 a1 a2 a3 (i64.wrap (a4+1)) else AI ()
def qt:=lp uN
theorem Dx (n:Nat):qt (n+1)=uN (qt n) n:=rfl
def xN (n:Nat)(a0:Sl×Int):M Sl:=nW ai [aA a0.1,vi a0.2] λx0=>lS (ak x0) 0 λx1=>sh (xm none e9 [.bool false] (↑x1.len:Int) (↑x1.len:Int)) λx2=>lS (ak x0) 0 λx3=>sh (qt n (ak x0) x2 x3 (↑x3.len:Int) 0) λx4=>AI x2
abbrev ahV (n:Nat):cA:=eN 29 [.agg [.sl,.int .i64]] [aU] (xN n)
abbrev akp:=L1 [0,1,0,1,1] [(1,aB),(3,aU),(13,aU),(14,av),(15,av)] [] ([5,7]++rG 15 17) 0 qt
abbrev akq:=L1 (bL 11467) [(1,aB),(3,aU),(13,aU),(14,av),(15,av),(20,aU),(21,av),(22,av)] [] ([7]++rG 22 9) 2 qs
def Xc (n:Nat):=akq.k TZp Tryz.f29 n (hT:=λm _=>.m1 (K9 m))
def Xd (n:Nat):=akp.k TZp Tryz.f29 n (hT:=λm _=>.m2 (K9 m) (.cc (Xc m) .nil))
def IQ (n:Nat):aC TZp (ahV n):=aL Tryz.f29 (hT:=.m2 (K9 n) (.cc (Xd n) .nil))
def vS:pq (Addr->Sl->Sl->Bool->Sl->Sl->Int->Int->Int->Sl->Int->Int->Sl->Int->Int->Sl->Int->Int->M Bool):=λG n a0 a1 a2 a3 a4 a5 a6 a7 a8 a9 a10 a11 a12 a13 a14 a15 a16 a17=>if decide (a17<a16) then iX a15 a17 1 λx0=>eI x0 λx1=>iX a1 x1 1 λx2=>eI x2 λx3=>if decide (x3=a6) then G a0 a1 a2 false a4 a5 a6 a7 a8 a9 a10 a11 a12 a13 a14 a15 a16 (i64.wrap (a17+1)) else iX a4 a6 1 λx4=>iX a1 x1 1 λx5=>eI x4 λx6=>eI x5 λx7=>iX a4 x7 1 λx8=>eI x8 λx9=>iX a4 a6 1 λcH=>sN cH [vi (if x6<x9 then x9 else x6)] λx11=>G a0 a1 a2 a3 a4 a5 a6 a7 a8 a9 a10 a11 a12 a13 a14 a15 a16 (i64.wrap (a17+1)) else AI a3
def rE:=lp vS
theorem Eu (n:Nat):rE (n+1)=vS (rE n) n:=rfl
def pc:pq (Addr->Sl->Sl->Bool->Sl->Sl->Int->Int->Int->Sl->Int->Int->Sl->Int->Int->M Bool):=λG n a0 a1 a2 a3 a4 a5 a6 a7 a8 a9 a10 a11 a12 a13 a14=>if decide (a14<a13) then iX a12 a14 1 λx0=>eS x0 λx1=>sh (rE n a0 a1 a2 a3 a4 a5 a6 a7 a8 a9 a10 a11 a12 a13 a14 x1 (↑x1.len:Int) 0) λx2=>G a0 a1 a2 x2 a4 a5 a6 a7 a8 a9 a10 a11 a12 a13 (i64.wrap (a14+1)) else AI a3
def rF:=lp pc
theorem sD (n:Nat):rF (n+1)=pc (rF n) n:=rfl
def vT:pq (Addr->Sl->Sl->Bool->Sl->Sl->Int->Int->Int->Sl->Int->Int->M Bool):=λG n a0 a1 a2 a3 a4 a5 a6 a7 a8 a9 a10 a11=>if decide (a11<a10) then iX a9 a11 1 λx0=>eI x0 λx1=>sh (bX 15) λx2=>lS a0 0 λx3=>iX x3 x1 5 λx4=>lS x4 3 λx5=>lS a0 0 λx6=>iX x6 x1 5 λx7=>lS x7 4 λx8=>sh (gG (some (x2+12)) aT [aA x5,aA x8]) λx9=>sh (rF n a0 a1 a2 a3 a4 a5 a6 a7 a8 a9 a10 a11 { a:=some (ak x9),len:=2,cap:=3 } (↑2:Int) 0) λcH=>G a0 a1 a2 cH a4 a5 a6 a7 a8 a9 a10 (i64.wrap (a11+1)) else AI a3
def rH:=lp vT
theorem Ev (n:Nat):rH (n+1)=vT (rH n) n:=rfl
def vU:pq (Addr->Sl->Sl->Bool->Sl->Sl->Int->Int->M Bool):=λG n a0 a1 a2 a3 a4 a5 a6 a7=>if decide (a7<a6) then iX a5 a7 1 λx0=>eS x0 λx1=>sh (rH n a0 a1 a2 a3 a4 a5 a7 a6 a7 x1 (↑x1.len:Int) 0) λx2=>iX a4 a7 1 λx3=>iX a2 a7 1 λx4=>eI x3 λx5=>eI x4 λx6=>iX a4 a7 1 λx7=>sN x7 [vi (i64.wrap (x5+x6))] λx8=>G a0 a1 a2 x2 a4 a5 a6 (i64.wrap (a7+1)) else AI a3
def rI:=lp vU
theorem Ew (n:Nat):rI (n+1)=vU (rI n) n:=rfl
def vV:pq (Addr->Sl->Sl->Bool->Sl->Sl->Sl->Int->Int->M Unit):=λG n a0 a1 a2 a3 a4 a5 a6 a7 a8=>if decide (a8<a7) then iX a6 a8 1 λx0=>eI x0 λx1=>iX a5 x1 1 λx2=>eS x2 λx3=>sh (app false x3 1 an 1 [vi a8]) λx4=>iX a5 x1 1 λx5=>sN x5 [aA x4] λx6=>G a0 a1 a2 a3 a4 a5 a6 a7 (i64.wrap (a8+1)) else AI ()
def rJ:=lp vV
theorem Ex (n:Nat):rJ (n+1)=vV (rJ n) n:=rfl
def wO (n:Nat)(a0:Sl×Int):M (Int×Bool):=nW ai [aA a0.1,vi a0.2] λx0=>gL (ak x0) λx1=>sh (sf n (x1.1,x1.2)) λx2=>sh (xm none an [vi 0] (↑x2.2.len:Int) (↑x2.2.len:Int)) λx3=>sh (xm none aT [aI] (↑x2.2.len:Int) (↑x2.2.len:Int)) λx4=>sh (rJ n (ak x0) x2.1 x2.2 true x3 x4 x2.1 (↑x2.1.len:Int) 0) λx5=>sh (rI n (ak x0) x2.1 x2.2 true x3 x4 (↑x2.2.len:Int) 0) λx6=>lI (ak x0) 1 λx7=>iX x2.1 x7 1 λx8=>eI x8 λx9=>iX x3 x9 1 λcH=>eI cH λx11=>AI (i64.wrap (x11-1),x6)
abbrev ahW (n:Nat):cA:=eN 31 [.agg [.sl,.int .i64]] [av,jd] (wO n)
abbrev akr:=L1 (bL 351) [(1,aB),(4,aU),(5,aU),(6,jd),(7,aU),(8,aU),(29,aU),(30,av),(31,av)] [] ([9,10]++rG 31 16) 0 rJ
abbrev aks:=L1 (bL 703) [(1,aB),(4,aU),(5,aU),(6,jd),(7,aU),(8,aU),(48,av),(49,av)] [(6,jd)] ([6,11,13,15,17]++rG 49 71) 2 rI
abbrev akt:=L1 (bL 347327) [(1,aB),(4,aU),(5,aU),(6,jd),(7,aU),(8,aU),(11,av),(48,av),(49,av),(55,aU),(56,av),(57,av)] [(6,jd)] ([6,13,15,17]++rG 57 52) 4 rH
abbrev aku:=L1 (bL 93932735) [(1,aB),(4,aU),(5,aU),(6,jd),(7,aU),(8,aU),(11,av),(48,av),(49,av),(55,aU),(56,av),(57,av),(73,aU),(74,av),(75,av)] [(6,jd)] ([6,15,17]++rG 75 33) 6 rF
abbrev akv:=L1 (bL 24051797183) [(1,aB),(4,aU),(5,aU),(6,jd),(7,aU),(8,aU),(11,av),(48,av),(49,av),(55,aU),(56,av),(57,av),(73,aU),(74,av),(75,av),(79,aU),(80,av),(81,av)] [(6,jd)] ([6,17]++rG 81 26) 8 rE
def Ht:=dR [(16,[0,2,6,8,14,1,3,4,5,7]++rG 9 5),(24,rG 0 5++[6,7,8,9,5]++rG 10 6),(28,[0,1,2,4,5,6,3,7,8,9,10])]
def Xe (n:Nat):=akv.k TZp Tryz.f31 n (dr:=Ht) (hT:=λm _=>.m1 (K9 m))
def Xf (n:Nat):=aku.k TZp Tryz.f31 n (dr:=Ht) (hT:=λm _=>.m2 (K9 m) (.cc (Xe m) .nil))
def Xg (n:Nat):=akt.k TZp Tryz.f31 n (dr:=Ht) (hT:=λm _=>.m2 (K9 m) (.cc (Xf m) .nil))
def Xh (n:Nat):=aks.k TZp Tryz.f31 n (dr:=Ht) (hT:=λm _=>.m2 (K9 m) (.cc (Xg m) .nil))
def Xi (n:Nat):=akr.k TZp Tryz.f31 n (dr:=Ht) (hT:=λm _=>.m1 (K9 m))
def Ks (n:Nat):aC TZp (ahW n):=aL Tryz.f31 (dr:=Ht) (hT:=.m2 (K9 n) (.cc (Xi n) (.cc (Xh n) .nil)))
def strings_Compare (n:Nat)(a0 a1:ζ):M Int:=sh (kC n a0 a1) λx0=>AI x0
abbrev ahX (n:Nat):cA:=eN 40 [mV,mV] [av] (strings_Compare n)
def Fy (n:Nat):aC TZp (ahX n):=aL Tryz.f40 (hT:=.m1 (K9 n))
def mu (n:Nat)(a0 a1:Addr):M Int:=lB a0 0 λx0=>if x0 then lS a1 1 λx1=>lS a0 1 λx2=>sh (uD n x1 x2) λx3=>AI x3 else lS a0 1 λx1=>lS a1 1 λx2=>sh (uD n x1 x2) λx3=>AI x3
def uO (n:Nat)(a0 a1:Addr):M Int:=lB a0 0 λx0=>if x0 then lB a1 0 λx1=>if !x1 then AI (-1) else lB a0 0 λx2=>if !x2 then lB a1 0 λx3=>if x3 then AI 1 else mu n a0 a1 else mu n a0 a1 else lB a0 0 λx1=>if !x1 then lB a1 0 λx2=>if x2 then AI 1 else mu n a0 a1 else mu n a0 a1
def zF (n:Nat)(a0 a1:ζ):M Int:=sh (sd n a0) λx0=>nW aH [.bool false,aI] λx1=>sN (ak x1) [.bool x0.1.1,aA x0.1.2] λx2=>sh (sd n a1) λx3=>nW aH [.bool false,aI] λx4=>sN (ak x4) [.bool x3.1.1,aA x3.1.2] λx5=>if !x0.2 then AI 0 else if !x3.2 then AI 0 else uO n (ak x1) (ak x4)
abbrev aa9 (n:Nat):cA:=eN 195 [mV,mV] [av] (zF n)
abbrev afD (n:Nat):List (gO Int):=[jN (bL 143) [.code (bL 207),.au 0,.code [1,1,1,1,1]] [(5,aB),(7,aB)] (uO n), jN (bL 3023) [.code (bL 4047),.au 0,.code [1,1,1,1,1]] [(5,aB),(7,aB)] (mu n)]
def Kt (n:Nat):aC TZp (aa9 n):=aL Tryz.f195 (js:=afD n) (hT:=.m3 (K9 n) (.cc (.cc .nil)))
def tx (n:Nat)(a0 a1:Bool×Sl×Int):M Int:=nW bB [.bool a0.1,aA a0.2.1,vi a0.2.2] λx0=>nW bB [.bool a1.1,aA a1.2.1,vi a1.2.2] λx1=>lB (ak x0) 0 λx2=>lB (ak x1) 0 λx3=>if !x2==x3 then lB (ak x0) 0 λx4=>if x4 then AI (-1) else AI 1 else sh (cF [.bool,.sl,li] (ak x0)) λ(x4:Bool×Sl×Int)=>sh (cF [.bool,.sl,li] (ak x1)) λ(x5:Bool×Sl×Int)=>sh (pU n (x4.1,x4.2.1,x4.2.2) (x5.1,x5.2.1,x5.2.2)) λx6=>sh (wy n x6) λx7=>lB (ak x0) 0 λx8=>if x8 then AI (i64.wrap (0-x7)) else AI x7
abbrev aba (n:Nat):cA:=eN 239 [.agg [.bool,.sl,.int .i64],.agg [.bool,.sl,.int .i64]] [av] (tx n)
def FA (n:Nat):aC TZp (aba n):=aL Tryz.f239 (hT:=.m1 (K9 n))
def qN (n:Nat)(a0:Int):M Int:=sh (sU n (IntKind.u64.wrap a0)) λx0=>sh (qT (decide (0<=x0))) λx1=>AI (IntKind.u64.wrap (1*2^min (Int.toNat x0) 64))
abbrev abb (n:Nat):cA:=eN 116 [av] [.one (.int .u64)] (qN n)
def Ag (n:Nat):aC TZp (abb n):=aL Tryz.f116 (hT:=.m1 (K9 n))
def dS (n:Nat)(a0:θ)(a1:ζ):M (Int×ξ):=sh (gh n a0) λx0=>sh (nn a0) λx1=>lS x1 1 λx2=>sh (app false x2 1 gH a1.size (bK a1)) λx3=>sh (nn a0) λx4=>sN (x4.plus 1) [aA x3] λx5=>AI ((↑a1.size:Int),Value.nilIface)
abbrev ahY (n:Nat):cA:=eN 36 [GQ,mV] [av,vA] (dS n)
def vW (n:Nat):aC TZp (ahY n):=aL Tryz.f36 (hT:=.m1 (K9 n))
def cy (n:Nat)(a0:θ)(a1:Int):M ξ:=sh (gh n a0) λx0=>sh (nn a0) λx1=>lS x1 1 λx2=>sh (app false x2 1 gH 1 [.int IntKind.u8 a1]) λx3=>sh (nn a0) λx4=>sN (x4.plus 1) [aA x3] λx5=>AI Value.nilIface
abbrev ahZ (n:Nat):cA:=eN 37 [GQ,.one (.int .u8)] [vA] (cy n)
def xa (n:Nat):aC TZp (ahZ n):=aL Tryz.f37 (hT:=.m1 (K9 n))
def oj:pq (ζ->Sl->Int->M (Sl⊕(Sl×Int))):=λG n a0 a1 a2=>if decide (a2<(↑a0.size:Int)) then sh (tg n a0 a2) λx0=>if decide (x0.2=0) then AI (Sum.inr (a1,a2)) else sh (app false a1 1 ahs 1 [.int IntKind.i32 (IntKind.i32.wrap x0.1)]) λx1=>G a0 x1 (i64.wrap (a2+x0.2)) else AI (Sum.inl a1)
def iY:=lp oj
def sE (n:Nat)(a0:ζ):M (Sl×Int):=sh (iY n a0 oz 0) (aK (λx0=>AI (x0,-1)) (λx0=>AI (x0.1,x0.2)))
abbrev abc (n:Nat):cA:=eN 167 [mV] [aU,av] (sE n)
abbrev afE:=L2 [0,0,1,1,1] [(0,mV),(4,aU),(5,av)] [(4,aU)] [(2,aU),(3,av)] (rG 2 28) 0 .ret iY
def SR (n:Nat):=afE.k TZp Tryz.f167 n (hT:=λm _=>.m1 (K9 m))
def Bx (n:Nat):aC TZp (abc n):=aL Tryz.f167 (hT:=.m2 (K9 n) (.cc (SR n) .nil))
def pd:pq (Addr->Int->Sl->Int->ζ->Int->M (Unit⊕Bool)):=λG n a0 a1 a2 a3 a4 a5=>if decide (a5<(↑a2.len:Int)) then iX a2 a5 1 λx0=>eT x0 λx1=>if oG x1 a4 then AI (Sum.inr true) else G a0 a1 a2 a3 a4 (i64.wrap (a5+1)) else AI (Sum.inl ())
def jB:=lp pd
theorem yR (n:Nat):jB (n+1)=pd (jB n) n:=rfl
def pf:pq (Addr->Int->Sl->Int->M (Unit⊕Bool)):=λG n a0 a1 a2 a3=>lS a0 0 λx0=>iX x0 a1 5 λx1=>lS x1 3 λx2=>if decide (a3<(↑x2.len:Int)) then gL a0 λx3=>lS a0 0 λx4=>iX x4 a1 5 λx5=>lS x5 3 λx6=>iX x6 a3 1 λx7=>eI x7 λx8=>sh (gY n (x3.1,x3.2) x8) λx9=>sh (jB n a0 a1 a2 a3 x9 0) (aK (λcH=>sh (app false a2 1 uo 1 [.string x9]) λx11=>G a0 a1 x11 (i64.wrap (a3+1))) (λcH=>AI (Sum.inr cH))) else AI (Sum.inl ())
def jC:=lp pf
theorem yS (n:Nat):jC (n+1)=pf (jC n) n:=rfl
def pg:pq (Addr->Int->M (Unit⊕Bool)):=λG n a0 a1=>lS a0 0 λx0=>if decide (a1<(↑x0.len:Int)) then sh (jC n a0 a1 oz 0) (aK (λx1=>G a0 (i64.wrap (a1+1))) (λx1=>AI (Sum.inr x1))) else AI (Sum.inl ())
def jD:=lp pg
theorem yT (n:Nat):jD (n+1)=pg (jD n) n:=rfl
def pX (n:Nat)(a0:Sl×Int):M Bool:=nW ai [aA a0.1,vi a0.2] λx0=>sh (jD n (ak x0) 0) (aK (λx1=>AI false) (λx1=>AI x1))
abbrev ah0 (n:Nat):cA:=eN 43 [.agg [.sl,.int .i64]] [jd] (pX n)
abbrev akw:=L2 [0,1,0,1] [(1,aB),(3,av)] [] [(2,jd)] (rG 2 51) 0 .ret jD
abbrev akx:=L2 (bL 2853) [(1,aB),(3,av),(4,aU),(5,av)] [] [(2,jd)] ([2,4,5,6,7]++rG 15 38) 2 .ret jC
abbrev aky:=L2 (bL 693029) [(1,aB),(3,av),(4,aU),(5,av),(6,mV),(7,av)] [] [(2,jd)] ([2,7]++rG 37 12) 4 .ret jB
def N5:=dR [(8,[1,3,7,0,2,4,5,6,8,9,10,11])]
def Xj (n:Nat):=aky.k TZp Tryz.f43 n (dr:=N5) (hT:=λm _=>.m1 (K9 m))
def Xk (n:Nat):=akx.k TZp Tryz.f43 n (dr:=N5) (hT:=λm _=>.m2 (K9 m) (.cc (Xj m) .nil))
def Xl (n:Nat):=akw.k TZp Tryz.f43 n (dr:=N5) (hT:=λm _=>.m2 (K9 m) (.cc (Xk m) .nil))
def Cs (n:Nat):aC TZp (ah0 n):=aL Tryz.f43 (dr:=N5) (hT:=.m2 (K9 n) (.cc (Xl n) .nil))
structure aq where
 fH:Addr->Sl->Addr->Int->Int->M Unit
 fI:Addr->Sl->Addr->Int->M Sl
 dD:(Sl×Int)->Int->M Sl
 cw:Addr->Addr->Addr->Addr->Sl->Sl->Int->M (Unit⊕Int)
 cz:(Sl×Int)->Int->(Sl×Int)->Int->M Int
def kO (G:aq)(n:Nat)(a0:Addr)(a1:Sl)(a2:Addr)(a3 a4:Int):M Unit:=iX a1 a4 1 λx0=>iX a1 (i64.wrap (a4-1)) 1 λx1=>eI x0 λx2=>eI x1 λx3=>iX a1 (i64.wrap (a4-1)) 1 λx4=>sN x4 [vi x2] λx5=>iX a1 a4 1 λx6=>sN x6 [vi x3] λx7=>G.fH a0 a1 a2 a3 (i64.wrap (a4-1))
def mQ (G:aq)(n:Nat)(a0:Addr)(a1:Sl)(a2:Addr)(a3 a4:Int):M Unit:=lB a2 2 λx0=>if !x0 then if decide (0<a4) then iX a1 a4 1 λx1=>iX a1 (i64.wrap (a4-1)) 1 λx2=>gL a0 λx3=>lS a2 3 λx4=>eI x1 λx5=>iX x4 x5 1 λx6=>eI x6 λx7=>gL a0 λx8=>lS a2 3 λx9=>eI x2 λcH=>iX x9 cH 1 λx11=>eI x11 λx12=>sh (G.cz (x3.1,x3.2) x7 (x8.1,x8.2) x12) λx13=>if decide (x13<0) then kO G n a0 a1 a2 a3 a4 else AI () else AI () else AI ()
def gm (G:aq)(n:Nat)(a0:Addr)(a1:Sl)(a2:Addr)(a3:Int):M Sl:=lS a2 3 λx0=>if decide (a3<(↑x0.len:Int)) then sh (app false a1 1 an 1 [vi a3]) λx1=>sh (G.fH a0 x1 a2 a3 a3) λx2=>G.fI a0 x1 a2 (i64.wrap (a3+1)) else AI a1
def iZ (G:aq)(n:Nat)(a0:Sl×Int)(a1:Int):M Sl:=nW ai [aA a0.1,vi a0.2] λx0=>lS (ak x0) 0 λx1=>iX x1 a1 5 λx2=>nL x2 λx3=>nW ar [vi 0,.string (ofBytes []),.bool false,aI,aI] λx4=>sN (ak x4) [vi x3.1,.string x3.2.1,.bool x3.2.2.1,aA x3.2.2.2.1,aA x3.2.2.2.2] λx5=>sh (G.fI (ak x0) oz (ak x4) 0) λx6=>AI x6
def mH (G:aq)(n:Nat)(a0 a1 a2 a3:Addr)(a4 a5:Sl)(a6:Int):M (Unit⊕Int):=lI a2 0 λx0=>if decide (x0=10) then iX a4 a6 1 λx1=>iX a5 a6 1 λx2=>gL a0 λx3=>lS a2 3 λx4=>eI x1 λx5=>iX x4 x5 1 λx6=>eI x6 λx7=>gL a1 λx8=>lS a3 3 λx9=>eI x2 λcH=>iX x9 cH 1 λx11=>eI x11 λx12=>sh (G.cz (x3.1,x3.2) x7 (x8.1,x8.2) x12) λx13=>if decide (x13=0) then iX a4 a6 1 λx14=>iX a5 a6 1 λx15=>gL a0 λx16=>lS a2 4 λx17=>eI x14 λx18=>iX x17 x18 1 λx19=>eI x19 λx20=>gL a1 λx21=>lS a3 4 λx22=>eI x15 λx23=>iX x22 x23 1 λx24=>eI x24 λx25=>sh (G.cz (x16.1,x16.2) x20 (x21.1,x21.2) x25) λx26=>if !decide (x26=0) then AI (Sum.inr x26) else G.cw a0 a1 a2 a3 a4 a5 (i64.wrap (a6+1)) else if !decide (x13=0) then AI (Sum.inr x13) else G.cw a0 a1 a2 a3 a4 a5 (i64.wrap (a6+1)) else gL a0 λx1=>lS a2 4 λx2=>iX x2 a6 1 λx3=>eI x3 λx4=>gL a1 λx5=>lS a3 4 λx6=>iX x6 a6 1 λx7=>eI x7 λx8=>sh (G.cz (x1.1,x1.2) x4 (x5.1,x5.2) x8) λx9=>if !decide (x9=0) then AI (Sum.inr x9) else G.cw a0 a1 a2 a3 a4 a5 (i64.wrap (a6+1))
def jK (G:aq)(n:Nat)(a0 a1 a2 a3:Addr)(a4 a5:Sl)(a6:Int):M (Unit⊕Int):=lS a2 4 λx0=>if decide (a6<(↑x0.len:Int)) then lS a3 4 λx1=>if decide (a6<(↑x1.len:Int)) then mH G n a0 a1 a2 a3 a4 a5 a6 else AI (Sum.inl ()) else AI (Sum.inl ())
def fZ (G:aq)(n:Nat)(a0 a1:Int)(a2 a3 a4 a5:Addr):M Int:=lI a4 0 λx0=>lT a4 1 λx1=>lT a5 1 λx2=>sh (oE n x0 x1 x2) λx3=>if !decide (x3=0) then AI x3 else gL a2 λx4=>gL a3 λx5=>sh (sM [some a3] (G.dD (x4.1,x4.2) a0)) λx6=>sh (G.dD (x5.1,x5.2) a1) λx7=>sh (G.cw a2 a3 a4 a5 x6 x7 0) (aK (λx8=>lS a4 4 λx9=>lS a5 4 λcH=>if decide ((↑x9.len:Int)<(↑cH.len:Int)) then AI (-1) else lS a4 4 λx11=>lS a5 4 λx12=>if decide ((↑x12.len:Int)<(↑x11.len:Int)) then AI 1 else AI 0) (λx8=>AI x8))
def lO (G:aq)(n:Nat)(a0:Sl×Int)(a1:Int)(a2:Sl×Int)(a3:Int):M Int:=nW ai [aA a0.1,vi a0.2] λx0=>nW ai [aA a2.1,vi a2.2] λx1=>sh (bX 14) λx2=>lS (ak x0) 0 λx3=>iX x3 a1 5 λx4=>nL x4 λx5=>lS (ak x1) 0 λx6=>iX x6 a3 5 λx7=>nL x7 λx8=>sh (gG (some (x2+10)) ar [vi 0,.string (ofBytes []),.bool false,aI,aI]) λx9=>sh (gG (some (x2+11)) ar [vi 0,.string (ofBytes []),.bool false,aI,aI]) λcH=>sh (sM [some ((ak x1).plus 0),some x7] (sL (ak x9) [vi x5.1,.string x5.2.1,.bool x5.2.2.1,aA x5.2.2.2.1,aA x5.2.2.2.2])) λx11=>sN (ak cH) [vi x8.1,.string x8.2.1,.bool x8.2.2.1,aA x8.2.2.2.1,aA x8.2.2.2.2] λx12=>lI (ak x9) 0 λx13=>lI (ak cH) 0 λx14=>if !decide (x13=x14) then lI (ak x9) 0 λx15=>lI (ak cH) 0 λx16=>if decide (x15<x16) then AI (-1) else AI 1 else lI (ak x9) 0 λx15=>if decide (x15=10) then lB (ak x9) 2 λx16=>lB (ak cH) 2 λx17=>if !x16==x17 then lB (ak cH) 2 λx18=>if x18 then AI (-1) else AI 1 else fZ G n a1 a3 (ak x0) (ak x1) (ak x9) (ak cH) else fZ G n a1 a3 (ak x0) (ak x1) (ak x9) (ak cH)
def aq.at:Nat->aq|0=>⟨λ_ _ _ _ _=>AS,λ_ _ _ _=>AS,λ_ _=>AS,λ_ _ _ _ _ _ _=>AS,λ_ _ _ _=>AS⟩|n+1=>⟨mQ (aq.at n) n,gm (aq.at n) n,iZ (aq.at n) n,jK (aq.at n) n,lO (aq.at n) n⟩
def fH (n:Nat):=(aq.at n).fH
def fI (n:Nat):=(aq.at n).fI
def dD (n:Nat):=(aq.at n).dD
def cw (n:Nat):=(aq.at n).cw
def cz (n:Nat):=(aq.at n).cz
def yU (n:Nat):=kO (aq.at n) n
def vf (n:Nat):=mH (aq.at n) n
def xb (n:Nat):=fZ (aq.at n) n
abbrev abd (n:Nat):cA:=eN 47 [.agg [.sl,.int .i64],av] [aU] (dD n)
abbrev akz:=L1 (bL 87) [(2,aB),(5,aU),(6,aB),(7,av)] [(5,aU)] ([5,7,8]++rG 14 60) 0 fI
abbrev akA:=L1 (bL 11415) [(2,aB),(5,aU),(6,aB),(7,av),(8,av)] [] ([8]++rG 26 48) 2 fH
abbrev abe (n:Nat):cA:=eN 72 [.agg [.sl,.int .i64],av,.agg [.sl,.int .i64],av] [av] (cz n)
abbrev akB:=L2 (bL 703) [(4,aB),(6,aB),(9,aB),(10,aB),(12,aU),(13,aU),(14,av)] [] [(8,av)] ([8,14,15]++rG 64 73) 0 .ret cw
abbrev C10 (n:Nat):List cA:=abd n::abe n::C9 n
def SS:=dR [(8,rG 0 8++[9,11,12,13,18,20,21,22,23,8,10,14,15,16,17,19]++rG 24 6),(10,rG 0 8++[9,10,11,12,8]++rG 13 5)]
abbrev Xm (n:Nat):List (gO Unit):=[jN (bL 150679) [.au 3,.code (bL 117911)] [(2,aB),(5,aU),(6,aB),(7,av),(8,av)] (yU n)]
def abf:=dR [(1,[0,2,5,7,1,3,4,6,8,9,10,11,10007012,13]),(13,[1,4,0,3,4002,5,6,7]),(19,[1,3,4,5,10,12,13,14,0,2,6,7,8,9,11]++rG 15 5),(21,[1,3,4,5,10,12,13,14,0,2,6,7,8,9,11]++rG 15 5),(22,[1,3,7,9,0,2,4,5,6,8,10,11,12,13])]
abbrev Xn (n:Nat):List (gO (Unit⊕Int)):=[jN (bL 17599) [.code (bL 25791),.au 1,.code (bL 7359)] [(4,aB),(6,aB),(9,aB),(10,aB),(12,aU),(13,aU),(14,av)] (vf n)]
abbrev akC (n:Nat):List (gO Int):=[jN (bL 79) [.code (bL 111),.code [1,1,1,1,1]] [(1,av),(3,av),(4,aB),(6,aB),(9,aB),(10,aB)] (xb n)]
def dE (n:Nat):Prop:=aC TZp (abd n)/\aC TZp (abe n)
def ML (n:Nat)(H:dE n):cS TZp (C10 n):=.cons H.1 (.cons H.2 (K9 n))
def Xo (n:Nat)(H:∀m,m<n->dE m):=akA.k TZp Tryz.f47 n (dr:=SS) (jt:=Xm) (hT:=λm hm=>.m3 (ML m (H m hm)) (.cc .nil))
def Xp (n:Nat)(H:∀m,m<n->dE m):=akz.k TZp Tryz.f47 n (dr:=SS) (hT:=λm hm=>.m2 (ML m (H m hm)) (.cc (Xo m (λk hk=>H k (anE hk hm))) .nil))
def xc (n:Nat)(H:∀m,m<n+1->dE m):aC TZp (abd (n+1)):=aL Tryz.f47 (dr:=SS) (hT:=.m2 (ML n (H n (IT n))) (.cc (Xp n (λk hk=>H k (adX hk))) .nil))
def Xq (n:Nat)(H:∀m,m<n->dE m):=akB.k TZp Tryz.f72 n (dr:=abf) (jt:=Xn) (hT:=λm hm=>.m3 (ML m (H m hm)) (.cc .nil))
def tW (n:Nat)(H:∀m,m<n+1->dE m):aC TZp (abe (n+1)):=aL Tryz.f72 (dr:=abf) (js:=akC n) (hT:=⟨.nil,ML n (H n (IT n)),.nil,(.cc (Xq n (λk hk=>H k (adX hk))) .nil),(.cc .nil)⟩)
def yV:∀n m,m<n->dE m:=uq (P:=dE) (⟨eJ Tryz.f47,eJ Tryz.f72⟩) λk h=>⟨xc k h,tW k h⟩
def K10 (n:Nat):cS TZp (C10 n):=ML n (yV (n+1) n (IT n))
abbrev C11 (n:Nat):List cA:=ahU n::aa0 n::aa1 n::aa2 n::aa3 n::aa4 n::aa5 n::aa6 n::aa7 n::aa8 n::ahV n::ahW n::ahX n::aa9 n::aba n::abb n::ahY n::ahZ n::abc n::ah0 n::C10 n
def Xr (n:Nat):cS TZp (C11 n):=.cons (Hs n) (.cons (Et n) (.cons (Kr n) (.cons (L4 n) (.cons (Gp n) (.cons (IM n) (.cons (IP n) (.cons (L5 n) (.cons (L6 n) (.cons (Bw n) (.cons (IQ n) (.cons (Ks n) (.cons (Fy n) (.cons (Kt n) (.cons (FA n) (.cons (Ag n) (.cons (vW n) (.cons (xa n) (.cons (Bx n) (.cons (Cs n) (K10 n))))))))))))))))))))
def tA (n:Nat)(a0:ζ)(a1:Addr)(a2:Int):M ((Bool×Sl×Int)×Bool):=sh (jG a0 (i64.wrap (a2+1)) (↑a0.size:Int)) λx0=>sh (strconv_Atoi n x0) λx1=>sh (nN x1.2) λx2=>if !x2 then sN a1 [.bool false,aI,vi 0] λx3=>sh (cF [.bool,.sl,li] a1) λ(x4:Bool×Sl×Int)=>AI ((x4.1,x4.2.1,x4.2.2),false) else sh (jG a0 0 a2) λx3=>sh (strings_TrimPrefix n x3 (ofBytes [45])) λx4=>sh (bX 9) λx5=>sh (qc a0 0) λx6=>sh (wx n x4) λx7=>sh (xD n (decide ((↑x6.toNat:Int)=45)) x7 x1.1) λx8=>sh (gG (some (x5+7)) bB [.bool false,aI,vi 0]) λx9=>sN (ak x9) [.bool x8.1,aA x8.2.1,vi x8.2.2] λcH=>sh (cF [.bool,.sl,li] (ak x9)) λ(x11:Bool×Sl×Int)=>sh (cF [.bool,.sl,li] (ak x9)) λ(x12:Bool×Sl×Int)=>sh (sM [some (ak x9)] (qW n (x12.1,x12.2.1,x12.2.2))) λx13=>if decide (x13=0) then sh (cF [.bool,.sl,li] (ak x9)) λ(x14:Bool×Sl×Int)=>sh (sM [some (ak x9)] (sk n (x14.1,x14.2.1,x14.2.2))) λx15=>sN a1 [.bool x11.1,aA x11.2.1,vi x11.2.2] λx16=>sh (cF [.bool,.sl,li] a1) λ(x17:Bool×Sl×Int)=>AI ((x17.1,x17.2.1,x17.2.2),oG x15 a0) else sN a1 [.bool x11.1,aA x11.2.1,vi x11.2.2] λx14=>sh (cF [.bool,.sl,li] a1) λ(x15:Bool×Sl×Int)=>AI ((x15.1,x15.2.1,x15.2.2),false)
def sq (n:Nat)(a0:ζ):M ((Bool×Sl×Int)×Bool):=nW bB [.bool false,aI,vi 0] λx0=>sh (strings_IndexByte n a0 101) λx1=>if decide (x1<0) then sN (ak x0) [.bool false,aI,vi 0] λx2=>sh (cF [.bool,.sl,li] (ak x0)) λ(x3:Bool×Sl×Int)=>AI ((x3.1,x3.2.1,x3.2.2),false) else sh (jG a0 0 x1) λx2=>sh (sV n x2) λx3=>if !x3 then sN (ak x0) [.bool false,aI,vi 0] λx4=>sh (cF [.bool,.sl,li] (ak x0)) λ(x5:Bool×Sl×Int)=>AI ((x5.1,x5.2.1,x5.2.2),false) else if decide (6<i64.wrap ((↑a0.size:Int)-x1)) then sN (ak x0) [.bool false,aI,vi 0] λx4=>sh (cF [.bool,.sl,li] (ak x0)) λ(x5:Bool×Sl×Int)=>AI ((x5.1,x5.2.1,x5.2.2),false) else tA n a0 (ak x0) x1
abbrev abg (n:Nat):cA:=eN 105 [mV] [.agg [.bool,.sl,.int .i64],jd] (sq n)
def afF:=dR [(8,[0,1,2,3,5,4,6,7,8]),(9,[0,1,1002,3,4,7,5,1006,8,9,10,11])]
abbrev afG (n:Nat):List (gO ((Bool×Sl×Int)×Bool)):=[jN [0,1,1,1] [.code [1,1,1,1]] [(0,mV),(2,aB),(4,av)] (tA n)]
def IU (n:Nat):aC TZp (abg n):=aL Tryz.f105 (dr:=afF) (js:=afG n) (hT:=.m3 (Xr n) (.cc .nil))
def wz (n:Nat)(a0 a1:Int)(a2:Nat):M (Nat):=sh (qT (decide (0<=52))) λx0=>sh (dB n (IntKind.u64.wrap (↑(BitVec.ofInt 64 (IntKind.u64.wrap (↑(BitVec.ofInt 64 a1&&&~~~BitVec.ofInt 64 9218868437227405312).toNat:Int))|||BitVec.ofInt 64 (IntKind.u64.wrap (IntKind.u64.wrap (i64.wrap (a0+1023))*2^52))).toNat:Int))) λx1=>sh (O6 a2 x1) λx2=>AI x2
def EK (n a0:Nat)(a1:Int):M (Nat):=sh (yO n a0) λx0=>sh (fU n x0.1) λx1=>sh (qT (decide (0<=52))) λx2=>if decide (i64.wrap (i64.wrap (a1+x0.2)+i64.wrap (i64.wrap (↑(BitVec.ofInt 64 (i64.wrap (Int.fdiv x1 (2^52)))&&&BitVec.ofInt 64 2047).toNat:Int)-1023)) < -1075) then sh (qD n 0 x0.1) λx3=>AI x3 else if decide (1023<i64.wrap (i64.wrap (a1+x0.2)+i64.wrap (i64.wrap (↑(BitVec.ofInt 64 (i64.wrap (Int.fdiv x1 (2^52)))&&&BitVec.ofInt 64 2047).toNat:Int)-1023))) then if fLt x0.1 0 then sh (Ds n (-1)) λx3=>AI x3 else sh (Ds n 1) λx3=>AI x3 else if decide (i64.wrap (i64.wrap (a1+x0.2)+i64.wrap (i64.wrap (↑(BitVec.ofInt 64 (i64.wrap (Int.fdiv x1 (2^52)))&&&BitVec.ofInt 64 2047).toNat:Int)-1023)) < -1022) then wz n (i64.wrap (i64.wrap (i64.wrap (a1+x0.2)+i64.wrap (i64.wrap (↑(BitVec.ofInt 64 (i64.wrap (Int.fdiv x1 (2^52)))&&&BitVec.ofInt 64 2047).toNat:Int)-1023))+53)) x1 4368491638549381120 else wz n (i64.wrap (i64.wrap (a1+x0.2)+i64.wrap (i64.wrap (↑(BitVec.ofInt 64 (i64.wrap (Int.fdiv x1 (2^52)))&&&BitVec.ofInt 64 2047).toNat:Int)-1023))) x1 4607182418800017408
def Ku (n a0:Nat)(a1:Int):M (Nat):=if LK a0 0 then AI a0 else sh (Bt n a0 0) λx0=>if x0 then AI a0 else sh (Ki n a0) λx1=>if x1 then AI a0 else EK n a0 a1
abbrev abh (n:Nat):cA:=eN 185 [.one (.f64),av] [.one (.f64)] (Ku n)
abbrev afH (n:Nat):List (gO (Nat)):=[jN [0,1,1] [.code [1,1,1]] [(0,.one (.f64)),(1,av)] (EK n), jN (bL 3071) [.code (bL 4095)] [(1,av),(6,.one (.int .u64)),(7,.one (.f64))] (wz n)]
def L7 (n:Nat):aC TZp (abh n):=aL Tryz.f185 (js:=afH n) (hT:=.m3 (Xr n) (.cc (.cc .nil)))
def uP (n a0:Nat)(a1:ζ):M ζ:=if !LK a0 a0 then AI (ofBytes [110,97,110]) else sh (Bt n a0 0) λx0=>if x0 then sh (mG a1 (ofBytes [105,110,102])) λx1=>AI x1 else if LK a0 0 then sh (mG a1 (ofBytes [48,112,48])) λx1=>AI x1 else sh (Bu n a0) λx1=>sh (tH n x1.1 10) λx2=>sh (mG a1 x2) λx3=>sh (mG x3 (ofBytes [112])) λx4=>sh (strconv_Itoa n x1.2) λx5=>sh (mG x4 x5) λx6=>AI x6
def Dy (n a0:Nat):M ζ:=sh (Bp n a0) λx0=>if x0 then uP n a0 (ofBytes [45]) else uP n a0 (ofBytes [])
abbrev abj (n:Nat):cA:=eN 147 [.one (.f64)] [mV] (Dy n)
abbrev afI (n:Nat):List (gO ζ):=[jN (bL 71) [.code (bL 103),.au 0,.code [1,1,1,1]] [(0,.one (.f64)),(3,mV)] (uP n)]
def Kv (n:Nat):aC TZp (abj n):=aL Tryz.f147 (js:=afI n) (hT:=.m3 (Xr n) (.cc .nil))
def fL:pq (Addr->(Int×Int×Int×Int×Int)->Int->M (Unit⊕Bool)):=λG n a0 a1 a2=>if decide (a2<5) then sh (Nd li 5 [vi a1.1,vi a1.2.1,vi a1.2.2.1,vi a1.2.2.2.1,vi a1.2.2.2.2] a2) λx0=>sh (qT (decide (0<=i64.wrap (a2+3)/\i64.wrap (a2+3)<(↑8:Int)))) λx1=>sh (dz li ((a0.plus 1).plus ((i64.wrap (a2+3)).toNat*1))) λ(x2:Int)=>if decide (x0<x2) then AI (Sum.inr false) else G a0 (a1.1,a1.2.1,a1.2.2.1,a1.2.2.2.1,a1.2.2.2.2) (i64.wrap (a2+1)) else AI (Sum.inl ())
def gJ:=lp fL
def gM (n:Nat)(a0:Addr):M Bool:=nW We [vi 0,vi 0,vi 0,vi 0,vi 0] λx0=>sN (ak x0) [vi 23,vi 59,vi 59,vi 23,vi 59] λx1=>sh (cF [li,li,li,li,li] (ak x0)) λ(x2:Int×Int×Int×Int×Int)=>sh (gJ n a0 (x2.1,x2.2.1,x2.2.2.1,x2.2.2.2.1,x2.2.2.2.2) 0) (aK (λx3=>AI true) (λx3=>AI x3))
def jE (n:Nat)(a0:J11):M Bool:=nW bO [vi a0.1,vi a0.2.1,vi a0.2.2.1,vi a0.2.2.2.1,vi a0.2.2.2.2.1,vi a0.2.2.2.2.2.1,vi a0.2.2.2.2.2.2.1,vi a0.2.2.2.2.2.2.2.1,vi a0.2.2.2.2.2.2.2.2.1,vi a0.2.2.2.2.2.2.2.2.2.1,.int IntKind.u8 a0.2.2.2.2.2.2.2.2.2.2] λx0=>lI (ak x0) 0 λx1=>if !decide (x1=2) then sh (qT (decide (0<=0/\0<(↑8:Int)))) λx2=>sh (dz li (((ak x0).plus 1).plus 0)) λ(x3:Int)=>sh (qT (decide (0<=1/\1<(↑8:Int)))) λx4=>sh (dz li (((ak x0).plus 1).plus 1)) λ(x5:Int)=>sh (qT (decide (0<=2/\2<(↑8:Int)))) λx6=>sh (dz li (((ak x0).plus 1).plus 2)) λ(x7:Int)=>sh (Bv n x3 x5 x7) λx8=>if !decide (x8.2=0) then AI false else gM n (ak x0) else gM n (ak x0)
abbrev abk (n:Nat):cA:=eN 109 [.agg [.int .i64,.int .i64,.int .i64,.int .i64,.int .i64,.int .i64,.int .i64,.int .i64,.int .i64,.int .i64,.int .u8]] [jd] (jE n)
abbrev afJ:=L2 (bL 87) [(1,aB),(27,.agg [.int .i64,.int .i64,.int .i64,.int .i64,.int .i64]),(28,av)] [] [(2,jd)] ([2,6,7]++rG 28 12) 0 .ret gJ
abbrev afK (n:Nat):List (gO Bool):=[jN [0,1,1] [.code [1,1,1]] [(1,aB)] (gM n)]
def SU (n:Nat):=afJ.k TZp Tryz.f109 n (hT:=λm _=>.m1 (Xr m))
def Ah (n:Nat):aC TZp (abk n):=aL Tryz.f109 (js:=afK n) (hT:=⟨.nil,Xr n,.nil,(.cc (SU n) .nil),(.cc .nil)⟩)
def j6 (n:Nat)(a0 a1 a2:Int):M (ζ×Int):=sh (Fx n a1) λx0=>if !decide (x0.2.2.2=0) then AI ((ofBytes []),13) else sh (qT (decide (3600≠0))) λx1=>sh (qT (decide (60≠0))) λx2=>sh (qT (decide (60≠0))) λx3=>sh (qT (decide (60≠0))) λx4=>nW bO [vi 0,vi 0,vi 0,vi 0,vi 0,vi 0,vi 0,vi 0,vi 0,vi 0,.int IntKind.u8 0] λx5=>sN (ak x5) [vi 3,vi x0.1,vi x0.2.1,vi x0.2.2.1,vi (i64.wrap (a2.tdiv 3600)),vi ((i64.wrap (a2.tdiv 60)).tmod 60),vi (a2.tmod 60),vi 0,vi 0,vi a0,.int IntKind.u8 0] λx6=>sh (cF [li,li,li,li,li,li,li,li,li,li,.int IntKind.u8] (ak x5)) λ(x7:J11)=>sh (lh n (x7.1,x7.2.1,x7.2.2.1,x7.2.2.2.1,x7.2.2.2.2.1,x7.2.2.2.2.2.1,x7.2.2.2.2.2.2.1,x7.2.2.2.2.2.2.2.1,x7.2.2.2.2.2.2.2.2.1,x7.2.2.2.2.2.2.2.2.2.1,x7.2.2.2.2.2.2.2.2.2.2)) λx8=>sh (mG x8 (ofBytes [90])) λx9=>AI (x9,0)
def rK (n:Nat)(a0 a1:Int):M (ζ×Int):=sh (qT (decide (86400≠0))) λx0=>sh (qT (decide (86400≠0))) λx1=>if decide (a0.tmod 86400<0) then j6 n a1 (i64.wrap (i64.wrap (a0.tdiv 86400)-1)) (i64.wrap (a0.tmod 86400+86400)) else j6 n a1 (i64.wrap (a0.tdiv 86400)) (a0.tmod 86400)
def qZ (n:Nat)(a0 a1:Int):M (ζ×Int):=if decide (a1<0) then AI ((ofBytes []),2) else if decide (999999999<a1) then AI ((ofBytes []),2) else if decide (a0 < -62167219200) then AI ((ofBytes []),13) else if decide (253402300800<=a0) then AI ((ofBytes []),13) else rK n a0 a1
abbrev abl (n:Nat):cA:=eN 110 [av,av] [mV,av] (qZ n)
abbrev afL (n:Nat):List (gO (ζ×Int)):=[jN [0,1,1,1] [.code [1,1,1,1]] [(0,av),(1,av)] (rK n), jN (bL 95) [.code (bL 127)] [(1,av),(6,av),(7,av)] (j6 n)]
def Dz (n:Nat):aC TZp (abl n):=aL Tryz.f110 (js:=afL n) (hT:=.m3 (Xr n) (.cc (.cc .nil)))
def lP (n:Nat)(a0:J11):M Int:=nW bO [vi a0.1,vi a0.2.1,vi a0.2.2.1,vi a0.2.2.2.1,vi a0.2.2.2.2.1,vi a0.2.2.2.2.2.1,vi a0.2.2.2.2.2.2.1,vi a0.2.2.2.2.2.2.2.1,vi a0.2.2.2.2.2.2.2.2.1,vi a0.2.2.2.2.2.2.2.2.2.1,.int IntKind.u8 a0.2.2.2.2.2.2.2.2.2.2] λx0=>sh (qT (decide (0<=0/\0<(↑8:Int)))) λx1=>sh (dz li (((ak x0).plus 1).plus 0)) λ(x2:Int)=>sh (qT (decide (0<=1/\1<(↑8:Int)))) λx3=>sh (dz li (((ak x0).plus 1).plus 1)) λ(x4:Int)=>sh (qT (decide (0<=2/\2<(↑8:Int)))) λx5=>sh (dz li (((ak x0).plus 1).plus 2)) λ(x6:Int)=>sh (Bv n x2 x4 x6) λx7=>sh (qT (decide (0<=3/\3<(↑8:Int)))) λx8=>sh (dz li (((ak x0).plus 1).plus 3)) λ(x9:Int)=>sh (qT (decide (0<=4/\4<(↑8:Int)))) λcH=>sh (dz li (((ak x0).plus 1).plus 4)) λ(x11:Int)=>sh (qT (decide (0<=5/\5<(↑8:Int)))) λx12=>sh (dz li (((ak x0).plus 1).plus 5)) λ(x13:Int)=>sh (qT (decide (0<=6/\6<(↑8:Int)))) λx14=>sh (dz li (((ak x0).plus 1).plus 6)) λ(x15:Int)=>sh (qT (decide (0<=7/\7<(↑8:Int)))) λx16=>sh (dz li (((ak x0).plus 1).plus 7)) λ(x17:Int)=>sh (dz (.int IntKind.u8) ((ak x0).plus 10)) λ(x18:Int)=>if decide (x18=43) then AI (i64.wrap (i64.wrap (i64.wrap (i64.wrap (i64.wrap (x7.1*86400)+i64.wrap (x9*3600))+i64.wrap (x11*60))+x13)-i64.wrap (i64.wrap (x15*3600)+i64.wrap (x17*60)))) else AI (i64.wrap (i64.wrap (i64.wrap (i64.wrap (i64.wrap (x7.1*86400)+i64.wrap (x9*3600))+i64.wrap (x11*60))+x13)+i64.wrap (i64.wrap (x15*3600)+i64.wrap (x17*60))))
abbrev abm (n:Nat):cA:=eN 111 [.agg [.int .i64,.int .i64,.int .i64,.int .i64,.int .i64,.int .i64,.int .i64,.int .i64,.int .i64,.int .i64,.int .u8]] [av] (lP n)
def zl (n:Nat):aC TZp (abm n):=aL Tryz.f111 (hT:=.m1 (Xr n))
def mR (n:Nat)(a0 a1:Int)(a2 a3:Addr):M Int:=sh (dz .ptr a2) λ(x0:θ)=>sh (nn x0) λx1=>lS (x1.plus 0) 0 λx2=>lS a3 3 λx3=>iX x3 a0 1 λx4=>eI x4 λx5=>iX x2 x5 5 λx6=>lT x6 1 λx7=>sh (dz .ptr a2) λ(x8:θ)=>sh (nn x8) λx9=>lS (x9.plus 0) 0 λcH=>lS a3 3 λx11=>iX x11 a1 1 λx12=>eI x12 λx13=>iX cH x13 5 λx14=>lT x14 1 λx15=>sh (strings_Compare n x7 x15) λx16=>AI x16
abbrev ah1 (n:Nat):cA:=eN 39 [av,av,aB,aB] [av] (mR n)
def akD:=dR [(1,[5,7,18,20]++rG 0 5++[6]++rG 8 10++[19]++rG 21 7)]
def aG (n:Nat):aC TZp (ah1 n):=aL Tryz.f39 (dr:=akD) (hT:=.m1 (Xr n))
abbrev lj:=Sl->Int->Int->Addr->Int->Int->M Unit
def bU (G:lj)(n:Nat)(a0:Sl)(a1 a2:Int)(a3:Addr)(a4 a5 a6:Int):M Unit:=iX a0 (i64.wrap (a1+a6)) 1 λx0=>iX a0 a5 1 λx1=>eI x0 λx2=>eI x1 λx3=>iX a0 a5 1 λx4=>sN x4 [vi x2] λx5=>iX a0 (i64.wrap (a1+a6)) 1 λx6=>sN x6 [vi x3] λx7=>G a0 a1 a2 a3 a4 (i64.wrap (a5+1))
def cB:pq (lj):=λG n a0 a1 a2 a3 a4 a5=>sh (qT (decide (4≠0))) λx0=>if decide (a5<=i64.wrap (i64.wrap (a1+i64.wrap (i64.wrap (a2.tdiv 4)*2))+1)) then sh (nD n (some a3)) λx1=>if decide (a2<=i64.wrap (IntKind.u64.wrap (↑(BitVec.ofInt 64 x1&&&BitVec.ofInt 64 (IntKind.u64.wrap (a4-1))).toNat:Int))) then bU G n a0 a1 a2 a3 a4 a5 (i64.wrap (i64.wrap (IntKind.u64.wrap (↑(BitVec.ofInt 64 x1&&&BitVec.ofInt 64 (IntKind.u64.wrap (a4-1))).toNat:Int))-a2)) else bU G n a0 a1 a2 a3 a4 a5 (i64.wrap (IntKind.u64.wrap (↑(BitVec.ofInt 64 x1&&&BitVec.ofInt 64 (IntKind.u64.wrap (a4-1))).toNat:Int))) else AI ()
def bj:=lp cB
def sr (n:Nat):=bU (bj n) n
def fJ (n:Nat)(a0:Sl)(a1 a2:Int)(a3:ξ):M Unit:=if decide (8<=i64.wrap (a2-a1)) then nW zu [.int IntKind.u64 0] λx0=>sN (ak x0) [.int IntKind.u64 (IntKind.u64.wrap (i64.wrap (a2-a1)))] λx1=>sh (qN n (i64.wrap (a2-a1))) λx2=>sh (qT (decide (4≠0))) λx3=>sh (bj n a0 a1 (i64.wrap (a2-a1)) (ak x0) x2 (i64.wrap (i64.wrap (a1+i64.wrap (i64.wrap ((i64.wrap (a2-a1)).tdiv 4)*2))-1))) λx4=>AI () else AI ()
abbrev ah2 (n:Nat):cA:=eN 90 [aU,av,av,vA] [] (fJ n)
abbrev akE:=L1 (bL 187) [(0,aU),(1,av),(8,av),(9,aB),(10,.one (.int .u64)),(11,av)] [] ([11,12]++rG 28 39) 0 bj
def abn:=dR [(10,rG 0 11++[12,13,14,11]++rG 15 5)]
abbrev Xs (n:Nat):List (gO Unit):=[jN (bL 14651) [.au 1,.code (bL 1851)] [(0,aU),(1,av),(8,av),(9,aB),(10,.one (.int .u64)),(11,av),(12,av)] (sr n)]
def Xt (n:Nat):=akE.k TZp Tryz.f90 n (dr:=abn) (jt:=Xs) (hT:=λm _=>.m3 (Xr m) (.cc .nil))
def tJ (n:Nat):aC TZp (ah2 n):=aL Tryz.f90 (dr:=abn) (hT:=.m2 (Xr n) (.cc (Xt n) .nil))
def ic (n:Nat)(a0:θ)(a1:ζ):M Unit:=sh (nn a0) λx0=>sh (strconv_Itoa n (↑a1.size:Int)) λx1=>sh (dS n (some (x0.plus 2)) x1) λx2=>sh (nn a0) λx3=>sh (cy n (some (x3.plus 2)) 58) λx4=>sh (nn a0) λx5=>sh (dS n (some (x5.plus 2)) a1) λx6=>AI ()
abbrev ah3 (n:Nat):cA:=eN 41 [GQ,mV] [] (ic n)
def akF:=dR [(0,rG 0 7)]
def yW (n:Nat):aC TZp (ah3 n):=aL Tryz.f41 (dr:=akF) (hT:=.m1 (Xr n))
def pY (n:Nat)(a0:ζ):M Bool:=sh (sE n a0) λx0=>AI (decide (x0.2<0))
abbrev abo (n:Nat):cA:=eN 124 [mV] [jd] (pY n)
def Ct (n:Nat):aC TZp (abo n):=aL Tryz.f124 (hT:=.m1 (Xr n))
structure aQ where
 fq:Sl->Int->Addr->Addr->Sl->Int->M Int
 eP:(Sl×Int)->Sl->Int->Int->M Int
def eh (G:aQ)(n:Nat)(a0:Sl)(a1:Int)(a2 a3:Addr)(a4:Sl)(a5:Int):M Int:=lS a3 4 λx0=>if decide (a5<(↑x0.len:Int)) then lI a3 0 λx1=>if decide (x1=10) then iX a4 a5 1 λx2=>gL a2 λx3=>lS a3 3 λx4=>eI x2 λx5=>iX x4 x5 1 λx6=>eI x6 λx7=>sh (G.eP (x3.1,x3.2) a0 a1 x7) λx8=>iX a4 a5 1 λx9=>gL a2 λcH=>lS a3 4 λx11=>eI x9 λx12=>iX x11 x12 1 λx13=>eI x13 λx14=>sh (G.eP (cH.1,cH.2) a0 x8 x14) λx15=>G.fq a0 x15 a2 a3 a4 (i64.wrap (a5+1)) else gL a2 λx2=>lS a3 4 λx3=>iX x3 a5 1 λx4=>eI x4 λx5=>sh (G.eP (x2.1,x2.2) a0 a1 x5) λx6=>G.fq a0 x6 a2 a3 a4 (i64.wrap (a5+1)) else AI a1
def rL (G:aQ)(n:Nat)(a0:Sl×Int)(a1:Sl)(a2 a3:Int):M Int:=nW ai [aA a0.1,vi a0.2] λx0=>iX a1 a3 1 λx1=>eI x1 λx2=>if decide (0<=x2) then AI a2 else iX a1 a3 1 λx3=>sN x3 [vi a2] λx4=>lS (ak x0) 0 λx5=>iX x5 a3 5 λx6=>nL x6 λx7=>nW ar [vi 0,.string (ofBytes []),.bool false,aI,aI] λx8=>sN (ak x8) [vi x7.1,.string x7.2.1,.bool x7.2.2.1,aA x7.2.2.2.1,aA x7.2.2.2.2] λx9=>gL (ak x0) λcH=>sh (dD n (cH.1,cH.2) a3) λx11=>sh (G.fq a1 (i64.wrap (a2+1)) (ak x0) (ak x8) x11 0) λx12=>AI x12
def aQ.at:Nat->aQ|0=>⟨λ_ _ _ _ _ _=>AS,λ_ _ _ _=>AS⟩|n+1=>⟨eh (aQ.at n) n,rL (aQ.at n) n⟩
def fq (n:Nat):=(aQ.at n).fq
def eP (n:Nat):=(aQ.at n).eP
abbrev abp (n:Nat):cA:=eN 46 [.agg [.sl,.int .i64],aU,av,av] [av] (eP n)
abbrev akG:=L1 (bL 703) [(1,aU),(2,av),(4,aB),(9,aB),(10,aU),(11,av)] [(2,av)] ([2,11]++rG 32 43) 0 fq
abbrev C12 (n:Nat):List cA:=abp n::C11 n
def abq:=dR [(11,[1,2,3,5,6,7,0,4]++rG 8 5),(12,[1,2,3,5,6,7,0,4]++rG 8 5),(13,[1,2,3,5,0,4,6,7,8,9])]
def j7 (n:Nat):Prop:=aC TZp (abp n)
def abr (n:Nat)(H:j7 n):cS TZp (C12 n):=.cons H (Xr n)
def Xu (n:Nat)(H:∀m,m<n->j7 m):=akG.k TZp Tryz.f46 n (dr:=abq) (hT:=λm hm=>.m1 (abr m (H m hm)))
def yX (n:Nat)(H:∀m,m<n+1->j7 m):aC TZp (abp (n+1)):=aL Tryz.f46 (dr:=abq) (hT:=.m2 (abr n (H n (IT n))) (.cc (Xu n (λk hk=>H k (adX hk))) .nil))
def Ai:∀n m,m<n->j7 m:=uq (P:=j7) (eJ Tryz.f46) λk h=>yX k h
def K12 (n:Nat):cS TZp (C12 n):=abr n (Ai (n+1) n (IT n))
abbrev C13 (n:Nat):List cA:=abg n::abh n::abj n::abk n::abl n::abm n::ah1 n::ah2 n::ah3 n::abo n::C12 n
def K13 (n:Nat):cS TZp (C13 n):=.cons (IU n) (.cons (L7 n) (.cons (Kv n) (.cons (Ah n) (.cons (Dz n) (.cons (zl n) (.cons (aG n) (.cons (tJ n) (.cons (yW n) (.cons (Ct n) (K12 n))))))))))
def wA (n:Nat)(a0:ζ):M Bool:=sh (sq n a0) λx0=>nW bB [.bool false,aI,vi 0] λx1=>sN (ak x1) [.bool x0.1.1,aA x0.1.2.1,vi x0.1.2.2] λx2=>AI x0.2
abbrev ah4 (n:Nat):cA:=eN 74 [mV] [jd] (wA n)
def Hu (n:Nat):aC TZp (ah4 n):=aL Tryz.f74 (hT:=.m1 (K13 n))
def FB (n a0:Nat)(a1:Int):M (Nat):=sh (Ku n a0 a1) λx0=>AI x0
abbrev abu (n:Nat):cA:=eN 146 [.one (.f64),av] [.one (.f64)] (FB n)
def L8 (n:Nat):aC TZp (abu n):=aL Tryz.f146 (hT:=.m1 (K13 n))
def pZ (n:Nat)(a0:Addr):M (ζ×Int):=sh (cF [li,li,li,li,li,li,li,li,li,li,.int IntKind.u8] a0) λ(x0:J11)=>sh (jE n (x0.1,x0.2.1,x0.2.2.1,x0.2.2.2.1,x0.2.2.2.2.1,x0.2.2.2.2.2.1,x0.2.2.2.2.2.2.1,x0.2.2.2.2.2.2.2.1,x0.2.2.2.2.2.2.2.2.1,x0.2.2.2.2.2.2.2.2.2.1,x0.2.2.2.2.2.2.2.2.2.2)) λx1=>if !x1 then AI ((ofBytes []),13) else sh (cF [li,li,li,li,li,li,li,li,li,li,.int IntKind.u8] a0) λ(x2:J11)=>lI a0 9 λx3=>sh (sM [some (a0.plus 9)] (lP n (x2.1,x2.2.1,x2.2.2.1,x2.2.2.2.1,x2.2.2.2.2.1,x2.2.2.2.2.2.1,x2.2.2.2.2.2.2.1,x2.2.2.2.2.2.2.2.1,x2.2.2.2.2.2.2.2.2.1,x2.2.2.2.2.2.2.2.2.2.1,x2.2.2.2.2.2.2.2.2.2.2))) λx4=>sh (qZ n x4 x3) λx5=>AI (x5.1,x5.2)
def qu (n:Nat)(a0:ζ):M (ζ×Int):=sh (pW n a0) λx0=>nW bO [vi 0,vi 0,vi 0,vi 0,vi 0,vi 0,vi 0,vi 0,vi 0,vi 0,.int IntKind.u8 0] λx1=>sN (ak x1) [vi x0.1.1,vi x0.1.2.1,vi x0.1.2.2.1,vi x0.1.2.2.2.1,vi x0.1.2.2.2.2.1,vi x0.1.2.2.2.2.2.1,vi x0.1.2.2.2.2.2.2.1,vi x0.1.2.2.2.2.2.2.2.1,vi x0.1.2.2.2.2.2.2.2.2.1,vi x0.1.2.2.2.2.2.2.2.2.2.1,.int IntKind.u8 x0.1.2.2.2.2.2.2.2.2.2.2] λx2=>if !x0.2 then AI ((ofBytes []),3) else sh (dz (.int IntKind.u8) ((ak x1).plus 10)) λ(x3:Int)=>if decide (x3=0) then AI ((ofBytes []),3) else pZ n (ak x1)
abbrev ah5 (n:Nat):cA:=eN 77 [mV] [mV,av] (qu n)
def akH:=dR [(6,[2,0,3,4001]++rG 4 5)]
abbrev akI (n:Nat):List (gO (ζ×Int)):=[jN [0,0,1,1,1] [.code [1,0,1,1,1],.code [1,1,1,1]] [(4,aB)] (pZ n)]
def FC (n:Nat):aC TZp (ah5 n):=aL Tryz.f77 (dr:=akH) (js:=akI n) (hT:=.m3 (K13 n) (.cc .nil))
def wB (n:Nat)(a0:ζ):M (ζ×Int):=sh (pW n a0) λx0=>nW bO [vi 0,vi 0,vi 0,vi 0,vi 0,vi 0,vi 0,vi 0,vi 0,vi 0,.int IntKind.u8 0] λx1=>sN (ak x1) [vi x0.1.1,vi x0.1.2.1,vi x0.1.2.2.1,vi x0.1.2.2.2.1,vi x0.1.2.2.2.2.1,vi x0.1.2.2.2.2.2.1,vi x0.1.2.2.2.2.2.2.1,vi x0.1.2.2.2.2.2.2.2.1,vi x0.1.2.2.2.2.2.2.2.2.1,vi x0.1.2.2.2.2.2.2.2.2.2.1,.int IntKind.u8 x0.1.2.2.2.2.2.2.2.2.2.2] λx2=>if !x0.2 then AI ((ofBytes []),3) else sh (dz (.int IntKind.u8) ((ak x1).plus 10)) λ(x3:Int)=>if !decide (x3=0) then AI ((ofBytes []),3) else sh (cF [li,li,li,li,li,li,li,li,li,li,.int IntKind.u8] (ak x1)) λ(x4:J11)=>sh (jE n (x4.1,x4.2.1,x4.2.2.1,x4.2.2.2.1,x4.2.2.2.2.1,x4.2.2.2.2.2.1,x4.2.2.2.2.2.2.1,x4.2.2.2.2.2.2.2.1,x4.2.2.2.2.2.2.2.2.1,x4.2.2.2.2.2.2.2.2.2.1,x4.2.2.2.2.2.2.2.2.2.2)) λx5=>if !x5 then AI ((ofBytes []),13) else sh (cF [li,li,li,li,li,li,li,li,li,li,.int IntKind.u8] (ak x1)) λ(x6:J11)=>sh (lh n (x6.1,x6.2.1,x6.2.2.1,x6.2.2.2.1,x6.2.2.2.2.1,x6.2.2.2.2.2.1,x6.2.2.2.2.2.2.1,x6.2.2.2.2.2.2.2.1,x6.2.2.2.2.2.2.2.2.1,x6.2.2.2.2.2.2.2.2.2.1,x6.2.2.2.2.2.2.2.2.2.2)) λx7=>AI (x7,0)
abbrev abv (n:Nat):cA:=eN 112 [mV] [mV,av] (wB n)
def Hv (n:Nat):aC TZp (abv n):=aL Tryz.f112 (hT:=.m1 (K13 n))
def zG (n:Nat)(a0 a1:ζ):M Int:=sh (sq n a0) λx0=>nW bB [.bool false,aI,vi 0] λx1=>sN (ak x1) [.bool x0.1.1,aA x0.1.2.1,vi x0.1.2.2] λx2=>sh (sq n a1) λx3=>nW bB [.bool false,aI,vi 0] λx4=>sN (ak x4) [.bool x3.1.1,aA x3.1.2.1,vi x3.1.2.2] λx5=>if !x0.2 then AI 0 else if !x3.2 then AI 0 else sh (cF [.bool,.sl,li] (ak x1)) λ(x6:Bool×Sl×Int)=>sh (cF [.bool,.sl,li] (ak x4)) λ(x7:Bool×Sl×Int)=>sh (tx n (x6.1,x6.2.1,x6.2.2) (x7.1,x7.2.1,x7.2.2)) λx8=>AI x8
abbrev abw (n:Nat):cA:=eN 196 [mV,mV] [av] (zG n)
def Kw (n:Nat):aC TZp (abw n):=aL Tryz.f196 (hT:=.m1 (K13 n))
def oF (n:Nat)(a0:Int)(a1:ζ):M Bool:=if decide (a0=0) then AI (oG a1 (ofBytes [])) else if decide (a0=1) then if oG a1 (ofBytes [116,114,117,101]) then AI true else AI (oG a1 (ofBytes [102,97,108,115,101])) else if decide (a0=2) then sh (pN n a1) λx0=>AI x0 else if decide (a0=3) then AS else if decide (a0=4) then AS else if decide (a0=5) then sh (pY n a1) λx0=>AI x0 else if decide (a0=6) then AI true else if decide (a0=7) then AS else if decide (a0=8) then AS else AI false
abbrev abx (n:Nat):cA:=eN 101 [av,mV] [jd] (oF n)
def Bz (n:Nat):aC TZp (abx n):=aL Tryz.f101 (hT:=.m1 (K13 n))
def jT:pq (Addr->Addr->Sl->Addr->Int->Addr->Addr->Sl->Int->M Unit):=λG n a0 a1 a2 a3 a4 a5 a6 a7 a8=>lS a5 4 λx0=>if decide (a8<(↑x0.len:Int)) then lI a5 0 λx1=>if decide (x1=10) then iX a7 a8 1 λx2=>lS a6 3 λx3=>lS a5 3 λx4=>eI x2 λx5=>iX x4 x5 1 λx6=>eI x6 λx7=>iX a2 x7 1 λx8=>eI x8 λx9=>sh (app true x3 1 an 1 [vi x9]) λcH=>sN (a6.plus 3) [aA cH] λx11=>iX a7 a8 1 λx12=>lS a6 4 λx13=>lS a5 4 λx14=>eI x12 λx15=>iX x14 x15 1 λx16=>eI x16 λx17=>iX a2 x17 1 λx18=>eI x18 λx19=>sh (app true x13 1 an 1 [vi x19]) λx20=>sN (a6.plus 4) [aA x20] λx21=>G a0 a1 a2 a3 a4 a5 a6 a7 (i64.wrap (a8+1)) else lS a6 4 λx2=>lS a5 4 λx3=>iX x3 a8 1 λx4=>eI x4 λx5=>iX a2 x5 1 λx6=>eI x6 λx7=>sh (app true x2 1 an 1 [vi x7]) λx8=>sN (a6.plus 4) [aA x8] λx9=>G a0 a1 a2 a3 a4 a5 a6 a7 (i64.wrap (a8+1)) else AI ()
def eQ:=lp jT
theorem ra (n:Nat):eQ (n+1)=jT (eQ n) n:=rfl
def om:pq (Addr->Addr->Sl->Addr->Int->M Unit):=λG n a0 a1 a2 a3 a4=>lS a0 0 λx0=>if decide (a4<(↑x0.len:Int)) then lS a0 0 λx1=>iX x1 a4 5 λx2=>nL x2 λx3=>nW ar [vi 0,.string (ofBytes []),.bool false,aI,aI] λx4=>sN (ak x4) [vi x3.1,.string x3.2.1,.bool x3.2.2.1,aA x3.2.2.2.1,aA x3.2.2.2.2] λx5=>lI (ak x4) 0 λx6=>lT (ak x4) 1 λx7=>lB (ak x4) 2 λx8=>nW ar [vi 0,.string (ofBytes []),.bool false,aI,aI] λx9=>sN (ak x9) [vi x6,.string x7,.bool x8,aI,aI] λcH=>gL a0 λx11=>sh (dD n (x11.1,x11.2) a4) λx12=>sh (eQ n a0 a1 a2 a3 a4 (ak x4) (ak x9) x12 0) λx13=>iX a2 a4 1 λx14=>lS a3 0 λx15=>eI x14 λx16=>nL (ak x9) λx17=>iX x15 x16 5 λx18=>sN x18 [vi x17.1,.string x17.2.1,.bool x17.2.2.1,aA x17.2.2.2.1,aA x17.2.2.2.2] λx19=>G a0 a1 a2 a3 (i64.wrap (a4+1)) else AI ()
def ja:=lp om
theorem xO (n:Nat):ja (n+1)=om (ja n) n:=rfl
def oo:pq (Addr->Addr->Sl->Int->M Unit):=λG n a0 a1 a2 a3=>if decide (a3<(↑a2.len:Int)) then iX a2 a3 1 λx0=>sN x0 [vi (-1)] λx1=>G a0 a1 a2 (i64.wrap (a3+1)) else AI ()
def jb:=lp oo
theorem xP (n:Nat):jb (n+1)=oo (jb n) n:=rfl
def lr (n:Nat)(a0:Sl×Int):M (Sl×Int):=nW ai [aA a0.1,vi a0.2] λx0=>nW ai [aI,vi 0] λx1=>lS (ak x0) 0 λx2=>sh (xm none an [vi 0] (↑x2.len:Int) (↑x2.len:Int)) λx3=>sh (jb n (ak x0) (ak x1) x3 0) λx4=>gL (ak x0) λx5=>lI (ak x0) 1 λx6=>sh (eP n (x5.1,x5.2) x3 0 x6) λx7=>lS (ak x0) 0 λx8=>sh (xm none ar [vi 0,.string (ofBytes []),.bool false,aI,aI] (↑x8.len:Int) (↑x8.len:Int)) λx9=>nW ai [aI,vi 0] λcH=>sN (ak cH) [aA x9,vi 0] λx11=>sh (ja n (ak x0) (ak x1) x3 (ak cH) 0) λx12=>gL (ak cH) λx13=>sN (ak x1) [aA x13.1,vi x13.2] λx14=>gL (ak x1) λx15=>AI (x15.1,x15.2)
abbrev ah6 (n:Nat):cA:=eN 20 [.agg [.sl,.int .i64]] [.agg [.sl,.int .i64]] (lr n)
abbrev akJ:=L1 [0,1,0,1,1] [(1,aB),(2,aB),(3,aU),(4,av)] [] ([4]++rG 15 9) 0 jb
abbrev akK:=L1 (bL 351) [(1,aB),(2,aB),(3,aU),(5,aB),(6,av)] [] (rG 6 5++rG 34 85) 2 ja
abbrev akL:=L1 (bL 356959) [(1,aB),(2,aB),(3,aU),(5,aB),(6,av),(7,aB),(8,aB),(9,aU),(10,av)] [] ([10]++rG 56 55) 4 eQ
def N6:=dR [(18,[0,2,3,5,6,7,1,4]++rG 8 9),(19,[0,2,3,5,6,7,1,4]++rG 8 9),(20,[0,2,3,5,1,4]++rG 6 8),(21,[0,2,3,4,1,5,6,7,8])]
def Xv (n:Nat):=akL.k TZp Tryz.f20 n (dr:=N6) (hT:=λm _=>.m1 (K13 m))
def Xw (n:Nat):=akK.k TZp Tryz.f20 n (dr:=N6) (hT:=λm _=>.m2 (K13 m) (.cc (Xv m) .nil))
def Xx (n:Nat):=akJ.k TZp Tryz.f20 n (dr:=N6) (hT:=λm _=>.m1 (K13 m))
def BA (n:Nat):aC TZp (ah6 n):=aL Tryz.f20 (dr:=N6) (hT:=.m2 (K13 n) (.cc (Xx n) (.cc (Xw n) .nil)))
abbrev C14 (n:Nat):List cA:=ah4 n::abu n::ah5 n::abv n::abw n::abx n::ah6 n::C13 n
def K14 (n:Nat):cS TZp (C14 n):=.cons (Hu n) (.cons (L8 n) (.cons (FC n) (.cons (Hv n) (.cons (Kw n) (.cons (Bz n) (.cons (BA n) (K13 n)))))))
def kP (n:Nat)(a0:ζ)(a1:Bool)(a2 a3:Int):M (Nat×Bool):=sh (FB n (Y8 a2) a3) λx0=>sh (Dy n x0) λx1=>if !oG x1 a0 then AI (0,false) else if a1 then sh (qD n x0 13830554455654793216) λx2=>AI (x2,true) else AI (x0,true)
def p6 (n:Nat)(a0:ζ):M (Nat×Bool):=sh (strings_CutPrefix n a0 (ofBytes [45])) λx0=>if oG a0 (ofBytes [110,97,110]) then sh (Kn n) λx1=>AI (x1,true) else if oG x0.1 (ofBytes [105,110,102]) then sh (Ds n 1) λx1=>if x0.2 then sh (qD n x1 13830554455654793216) λx2=>AI (x2,true) else AI (x1,true) else if oG x0.1 (ofBytes [48,112,48]) then if x0.2 then sh (qD n 0 13830554455654793216) λx1=>AI (x1,true) else AI (0,true) else sh (strings_Cut n x0.1 (ofBytes [112])) λx1=>sh (gq n x1.1 10 64) λx2=>sh (strconv_Atoi n x1.2.1) λx3=>if !x1.2.2 then AI (0,false) else sh (nN x2.2) λx4=>if !x4 then AI (0,false) else sh (nN x3.2) λx5=>if !x5 then AI (0,false) else sh (ru n x2.1 x3.1) λx6=>if !x6 then AI (0,false) else kP n x0.1 x0.2 x2.1 x3.1
abbrev aby (n:Nat):cA:=eN 106 [mV] [.one (.f64),jd] (p6 n)
abbrev afM (n:Nat):List (gO (Nat×Bool)):=[jN (bL 98279) [.code (bL 131047),.au 0,.code [1,1,1,1]] [(4,mV),(5,jd),(10,.one (.int .u64)),(12,av)] (kP n)]
def IV (n:Nat):aC TZp (aby n):=aL Tryz.f106 (js:=afM n) (hT:=.m3 (K14 n) (.cc .nil))
def sW (n:Nat)(a0:ζ):M Int:=sh (wB n a0) λx0=>if !decide (x0.2=0) then AI 0 else if !oG x0.1 a0 then AI 0 else sh (pW n a0) λx1=>nW bO [vi 0,vi 0,vi 0,vi 0,vi 0,vi 0,vi 0,vi 0,vi 0,vi 0,.int IntKind.u8 0] λx2=>sN (ak x2) [vi x1.1.1,vi x1.1.2.1,vi x1.1.2.2.1,vi x1.1.2.2.2.1,vi x1.1.2.2.2.2.1,vi x1.1.2.2.2.2.2.1,vi x1.1.2.2.2.2.2.2.1,vi x1.1.2.2.2.2.2.2.2.1,vi x1.1.2.2.2.2.2.2.2.2.1,vi x1.1.2.2.2.2.2.2.2.2.2.1,.int IntKind.u8 x1.1.2.2.2.2.2.2.2.2.2.2] λx3=>lI (ak x2) 0 λx4=>AI x4
abbrev ah7 (n:Nat):cA:=eN 78 [mV] [av] (sW n)
def Hw (n:Nat):aC TZp (ah7 n):=aL Tryz.f78 (hT:=.m1 (K14 n))
def p7:pq (Int->Addr->Int->M (Unit⊕Bool)):=λG n a0 a1 a2=>lS a1 3 λx0=>if decide (a2<(↑x0.len:Int)) then lS a1 3 λx1=>iX x1 a2 1 λx2=>eI x2 λx3=>if decide (x3<0) then AI (Sum.inr false) else lS a1 3 λx4=>iX x4 a2 1 λx5=>eI x5 λx6=>if decide (a0<=x6) then AI (Sum.inr false) else G a0 a1 (i64.wrap (a2+1)) else AI (Sum.inl ())
def j8:=lp p7
theorem zm (n:Nat):j8 (n+1)=p7 (j8 n) n:=rfl
def p8:pq (Int->Addr->Int->M (Unit⊕Bool)):=λG n a0 a1 a2=>lS a1 4 λx0=>if decide (a2<(↑x0.len:Int)) then lS a1 4 λx1=>iX x1 a2 1 λx2=>eI x2 λx3=>if decide (x3<0) then AI (Sum.inr false) else lS a1 4 λx4=>iX x4 a2 1 λx5=>eI x5 λx6=>if decide (a0<=x6) then AI (Sum.inr false) else G a0 a1 (i64.wrap (a2+1)) else AI (Sum.inl ())
def j9:=lp p8
theorem zn (n:Nat):j9 (n+1)=p8 (j9 n) n:=rfl
def kc (n:Nat)(a0:Addr):M Bool:=lI a0 0 λx0=>if decide (x0=9) then lT a0 1 λx1=>AI (oG x1 (ofBytes [])) else if decide (x0=10) then lT a0 1 λx1=>if oG x1 (ofBytes []) then lS a0 3 λx2=>lS a0 4 λx3=>AI (decide ((↑x2.len:Int)=(↑x3.len:Int))) else AI false else if decide (x0=11) then lS a0 4 λx1=>if decide ((↑x1.len:Int)=1) then lT a0 1 λx2=>sh (zA n x2) λx3=>AI x3 else AI false else lS a0 4 λx1=>if decide ((↑x1.len:Int)=0) then lI a0 0 λx2=>lT a0 1 λx3=>sh (oF n x2 x3) λx4=>AI x4 else AI false
def rb (n:Nat)(a0:Int×ζ×Bool×Sl×Sl)(a1:Int):M Bool:=nW ar [vi a0.1,.string a0.2.1,.bool a0.2.2.1,aA a0.2.2.2.1,aA a0.2.2.2.2] λx0=>sh (j9 n a1 (ak x0) 0) (aK (λx1=>sh (j8 n a1 (ak x0) 0) (aK (λx2=>lI (ak x0) 0 λx3=>if !decide (x3=10) then lB (ak x0) 2 λx4=>if x4 then AI false else lS (ak x0) 3 λx5=>if decide (0<(↑x5.len:Int)) then AI false else kc n (ak x0) else kc n (ak x0)) (λx2=>AI x2))) (λx1=>AI x1))
abbrev ah8 (n:Nat):cA:=eN 66 [.agg [.int .i64,.str,.bool,.sl,.sl],av] [jd] (rb n)
abbrev akM:=L2 [0,1,0,1] [(1,av),(2,aB),(5,av)] [] [(4,jd)] ([4,5]++rG 7 22) 0 .ret j9
abbrev akN:=L2 [0,1,0,1,1] [(1,av),(2,aB),(6,av)] [] [(4,jd)] ([4,6]++rG 29 22) 2 .ret j8
abbrev akO (n:Nat):List (gO Bool):=[jN (bL 79) [.code (bL 111),.code [1,1,1,1,1]] [(2,aB)] (kc n)]
def Xy (n:Nat):=akN.k TZp Tryz.f66 n (hT:=λm _=>.m1 (K14 m))
def Xz (n:Nat):=akM.k TZp Tryz.f66 n (hT:=λm _=>.m1 (K14 m))
def DA (n:Nat):aC TZp (ah8 n):=aL Tryz.f66 (js:=akO n) (hT:=⟨.nil,K14 n,.nil,(.cc (Xz n) (.cc (Xy n) .nil)),(.cc .nil)⟩)
abbrev C15 (n:Nat):List cA:=aby n::ah7 n::ah8 n::C14 n
def K15 (n:Nat):cS TZp (C15 n):=.cons (IV n) (.cons (Hw n) (.cons (DA n) (K14 n)))
def uQ (n:Nat)(a0:ζ):M Bool:=sh (p6 n a0) λx0=>AI x0.2
abbrev ah9 (n:Nat):cA:=eN 75 [mV] [jd] (uQ n)
def IW (n:Nat):aC TZp (ah9 n):=aL Tryz.f75 (hT:=.m1 (K15 n))
def Aj (n a0 a1:Nat):M (Int×Bool):=if fLt a0 a1 then AI (-1,true) else if fGt a0 a1 then AI (1,true) else AI (0,true)
def BB (n:Nat)(a0 a1:ζ):M (Int×Bool):=sh (p6 n a0) λx0=>sh (p6 n a1) λx1=>if !x0.2 then AI (0,false) else if !x1.2 then AI (0,false) else if !LK x0.1 x0.1 then AI (0,false) else if !LK x1.1 x1.1 then AI (0,false) else Aj n x0.1 x1.1
abbrev abz (n:Nat):cA:=eN 197 [mV,mV] [av,jd] (BB n)
abbrev afN (n:Nat):List (gO (Int×Bool)):=[jN (bL 359) [.code (bL 487),.au 0,.code [1,1,1,1]] [(6,.one (.f64)),(8,.one (.f64))] (Aj n)]
def L9 (n:Nat):aC TZp (abz n):=aL Tryz.f197 (js:=afN n) (hT:=.m3 (K15 n) (.cc .nil))
def kQ:pq (Int->Sl->Sl->Sl->Int->M (Unit⊕Bool)):=λG n a0 a1 a2 a3 a4=>if decide (a4<a0) then iX a1 a4 1 λx0=>eB x0 λx1=>if !x1 then AI (Sum.inr false) else iX a3 a4 1 λx2=>eB x2 λx3=>if x3 then iX a2 a4 1 λx4=>eI x4 λx5=>if !decide (x5=1) then AI (Sum.inr false) else G a0 a1 a2 a3 (i64.wrap (a4+1)) else G a0 a1 a2 a3 (i64.wrap (a4+1)) else AI (Sum.inl ())
def fM:=lp kQ
theorem vg (n:Nat):fM (n+1)=kQ (fM n) n:=rfl
def kR:pq (Addr->Int->Int->M (Unit⊕Bool)):=λG n a0 a1 a2=>if decide (a2<a1) then lS a0 0 λx0=>iX x0 a2 5 λx1=>nL x1 λx2=>sh (rb n (x2.1,x2.2.1,x2.2.2.1,x2.2.2.2.1,x2.2.2.2.2) a1) λx3=>if !x3 then AI (Sum.inr false) else G a0 a1 (i64.wrap (a2+1)) else AI (Sum.inl ())
def fN:=lp kR
theorem vh (n:Nat):fN (n+1)=kR (fN n) n:=rfl
def mw (n:Nat)(a0:Addr)(a1:Int):M Bool:=sh (fN n a0 a1 0) (aK (λx0=>gL a0 λx1=>lI a0 1 λx2=>gL a0 λx3=>gL a0 λx4=>sh (sM [some a0,some a0] (jI n (x1.1,x1.2) x2)) λx5=>sh (sM [some a0] (oB n (x3.1,x3.2))) λx6=>sh (oD n (x4.1,x4.2)) λx7=>sh (fM n a1 x5 x6 x7 0) (aK (λx8=>AI true) (λx8=>AI x8))) (λx0=>AI x0))
def kD (n:Nat)(a0:Sl×Int):M Bool:=nW ai [aA a0.1,vi a0.2] λx0=>lS (ak x0) 0 λx1=>if decide ((↑x1.len:Int)=0) then AI false else lI (ak x0) 1 λx2=>if decide (x2<0) then AI false else lI (ak x0) 1 λx3=>if decide ((↑x1.len:Int)<=x3) then AI false else mw n (ak x0) (↑x1.len:Int)
abbrev aia (n:Nat):cA:=eN 42 [.agg [.sl,.int .i64]] [jd] (kD n)
abbrev akP:=L2 (bL 87) [(1,aB),(3,av),(4,av)] [] [(2,jd)] ([2,4]++rG 25 13) 0 .ret fN
abbrev akQ:=L2 (bL 351) [(3,av),(5,aU),(6,aU),(7,aU),(8,av)] [] [(2,jd)] ([2,8]++rG 46 23) 2 .ret fM
def SV:=dR [(9,[1,0,2,4,6,7005003,7005,7,8,9,10])]
abbrev akR (n:Nat):List (gO Bool):=[jN [0,0,1,1,1] [.code [1,0,1,1,1],.code [1,1,1,1]] [(1,aB),(3,av)] (mw n)]
def XA (n:Nat):=akQ.k TZp Tryz.f42 n (dr:=SV) (hT:=λm _=>.m1 (K15 m))
def XB (n:Nat):=akP.k TZp Tryz.f42 n (dr:=SV) (hT:=λm _=>.m1 (K15 m))
def yY (n:Nat):aC TZp (aia n):=aL Tryz.f42 (dr:=SV) (js:=akR n) (hT:=⟨.nil,K15 n,.nil,(.cc (XB n) (.cc (XA n) .nil)),(.cc .nil)⟩)
abbrev C16 (n:Nat):List cA:=ah9 n::abz n::aia n::C15 n
def K16 (n:Nat):cS TZp (C16 n):=.cons (IW n) (.cons (L9 n) (.cons (yY n) (K15 n)))
def uR (n:Nat)(a0:Int)(a1:ζ):M Bool:=if decide (a0=0) then AI (oG a1 (ofBytes [])) else if decide (a0=1) then if oG a1 (ofBytes [116,114,117,101]) then AI true else AI (oG a1 (ofBytes [102,97,108,115,101])) else if decide (a0=2) then sh (sV n a1) λx0=>AI x0 else if decide (a0=3) then sh (wA n a1) λx0=>AI x0 else if decide (a0=4) then sh (uQ n a1) λx0=>AI x0 else if decide (a0=5) then sh (tf n a1) λx0=>AI (decide (x0.2=0)) else if decide (a0=6) then AI true else if decide (a0=7) then sh (qu n a1) λx0=>if decide (x0.2=0) then AI (oG x0.1 a1) else AI false else if decide (a0=8) then sh (sW n a1) λx0=>AI !decide (x0=0) else AI false
abbrev aib (n:Nat):cA:=eN 49 [av,mV] [jd] (uR n)
def IX (n:Nat):aC TZp (aib n):=aL Tryz.f49 (hT:=.m1 (K16 n))
def xQ (n:Nat)(a0:Int)(a1 a2:ζ):M Int:=if oG a1 a2 then AI 0 else if decide (a0=2) then sh (zF n a1 a2) λx0=>AI x0 else if decide (a0=3) then sh (zG n a1 a2) λx0=>AI x0 else if decide (a0=4) then if oG a1 (ofBytes [110,97,110]) then AI 1 else if oG a2 (ofBytes [110,97,110]) then AI (-1) else sh (BB n a1 a2) λx0=>if !decide (x0.1=0) then AI x0.1 else if oG a1 (ofBytes [45,48,112,48]) then AI (-1) else AI 1 else sh (strings_Compare n a1 a2) λx0=>AI x0
abbrev abA (n:Nat):cA:=eN 155 [av,mV,mV] [av] (xQ n)
def IY (n:Nat):aC TZp (abA n):=aL Tryz.f155 (hT:=.m1 (K16 n))
def mz (n:Nat)(a0:Sl×Int):M Int:=nW ai [aA a0.1,vi a0.2] λx0=>lS (ak x0) 0 λx1=>if decide (4096<(↑x1.len:Int)) then AI 7 else gL (ak x0) λx2=>sh (kD n (x2.1,x2.2)) λx3=>if !x3 then AI 3 else gL (ak x0) λx4=>sh (pX n (x4.1,x4.2)) λx5=>if x5 then AI 8 else gL (ak x0) λx6=>sh (pV n (x6.1,x6.2)) λx7=>if decide (32<x7.1) then AI 5 else AI 0
abbrev aic (n:Nat):cA:=eN 18 [.agg [.sl,.int .i64]] [av] (mz n)
def Cu (n:Nat):aC TZp (aic n):=aL Tryz.f18 (hT:=.m1 (K16 n))
abbrev C17 (n:Nat):List cA:=aib n::abA n::aic n::C16 n
def K17 (n:Nat):cS TZp (C17 n):=.cons (IX n) (.cons (IY n) (.cons (Cu n) (K16 n)))
def BC (n:Nat)(a0:Int×ζ×Bool×Sl×Sl):M Bool:=nW ar [vi a0.1,.string a0.2.1,.bool a0.2.2.1,aA a0.2.2.2.1,aA a0.2.2.2.2] λx0=>lI (ak x0) 0 λx1=>if decide (x1=9) then lT (ak x0) 1 λx2=>if oG x2 (ofBytes []) then lB (ak x0) 2 λx3=>if !x3 then lS (ak x0) 3 λx4=>AI (decide ((↑x4.len:Int)=0)) else AI false else AI false else if decide (x1=10) then lT (ak x0) 1 λx2=>if oG x2 (ofBytes []) then lS (ak x0) 3 λx3=>lS (ak x0) 4 λx4=>AI (decide ((↑x3.len:Int)=(↑x4.len:Int))) else AI false else if decide (x1=11) then lT (ak x0) 1 λx2=>sh (Bg n x2) λx3=>if x3 then lB (ak x0) 2 λx4=>if !x4 then lS (ak x0) 3 λx5=>if decide ((↑x5.len:Int)=0) then lS (ak x0) 4 λx6=>AI (decide ((↑x6.len:Int)=1)) else AI false else AI false else AI false else lB (ak x0) 2 λx2=>if !x2 then lS (ak x0) 3 λx3=>if decide ((↑x3.len:Int)=0) then lS (ak x0) 4 λx4=>if decide ((↑x4.len:Int)=0) then lI (ak x0) 0 λx5=>lT (ak x0) 1 λx6=>sh (uR n x5 x6) λx7=>AI x7 else AI false else AI false else AI false
abbrev aid (n:Nat):cA:=eN 27 [.agg [.int .i64,.str,.bool,.sl,.sl]] [jd] (BC n)
def Ma (n:Nat):aC TZp (aid n):=aL Tryz.f27 (hT:=.m1 (K17 n))
structure af where
 cn:Sl->ξ->M Unit
 bD:Sl->Int->Int->Int->ξ->Bool->Bool->M Unit
 dq:Sl->Int->Int->Int->ξ->M Unit
 iB:θ->Int->θ->Int->μ->M Int
 bR:Sl->Int->Int->ξ->Int->Int->M Unit
 bS:Sl->Int->Int->ξ->Int->M Unit
 dW:Sl->Int->Int->ξ->M Unit
 cY:Sl->ξ->Int->Int->Int->Int->M Unit
 cZ:Sl->ξ->Int->Int->Int->M Unit
 fP:Sl->Int->Int->ξ->M Unit
 eH:Sl->Int->Int->ξ->M (Int×Int)
 bE:Sl->Int->Int->ξ->Int->Int->Int->M Unit
 bF:Sl->Int->Int->ξ->Int->Int->Int->M Unit
 aV:Sl->Int->Int->ξ->Int->Int->M Int
 aW:Sl->Int->Int->ξ->Int->Int->M (Unit⊕Bool)
 bW:Sl->Int->Int->ξ->M Bool
 bG:Sl->Int->ξ->Int->Int->M Int
 bH:Sl->Int->ξ->Int->Int->M Int
 bI:Sl->Int->ξ->Int->Int->M Int
 dL:Sl->Int->Int->Int->ξ->M Int
 cK:Sl->Int->ξ->Int->Int->M Int
 cM:Sl->Int->ξ->Int->Int->M Int
 cN:Sl->Int->ξ->Int->Int->M Int
 cO:Sl->Int->ξ->Int->Int->M Int
 cP:Sl->Int->ξ->Int->Int->M Int
 fD:Sl->Int->Int->Int->ξ->M (Int×Bool)
 jh:θ->θ->μ->θ->θ->Sl->Sl->Int->Int->M (Unit⊕Int)
 p9:θ->Int->θ->Int->μ->M Int
 da:Sl->Int->Int->ξ->Int->M (Unit⊕Unit)
 eC:Sl->Int->Int->Int->ξ->M Unit
 cq:Sl->Int->θ->ξ->M Int
 dP:Sl->Int->Int->Int->θ->ξ->M Int
 gb:Int->Addr->Addr->Sl->Int->Int->M Unit
 eW:θ->Int->M Sl
 dQ:Sl->Int->Int->θ->ξ->M (Int×Int)
 mF:Int->Int->Addr->Addr->M Int
def aw (G:af)(n:Nat)(x:ξ)(a0 a1:Int):M Int:=if tU lE x then sh (sB [aB,aB] x) λ(c:Addr×Addr)=>mR n a0 a1 c.1 c.2 else if tU kA x then sh (sB [aB,aB] x) λ(c:Addr×Addr)=>G.mF a0 a1 c.1 c.2 else AS
abbrev kE:=aw
abbrev ie:=aw
abbrev ij:=aw
abbrev gT:=aw
abbrev ke:=aw
abbrev kh:=aw
abbrev mI:=aw
abbrev mJ:=aw
abbrev mA:=aw
abbrev mB:=aw
abbrev nH:=aw
abbrev nI:=aw
abbrev ph:=aw
def mS (G:af)(n:Nat)(a0:Sl)(a1:ξ):M Unit:=sh (sU n (IntKind.u64.wrap (↑a0.len:Int))) λx0=>sh (G.dq a0 0 (↑a0.len:Int) x0 a1) λx1=>AI ()
def dh (G:af)(n:Nat)(a0:Sl)(a1 a2 a3:Int)(a4:ξ)(a5 a6:Bool)(a7 a8:Int):M Unit:=sh (G.fD a0 a1 a2 a8 a4) λx0=>sh (qT (decide (8≠0))) λx1=>if decide (i64.wrap (x0.1-a1)<i64.wrap (a2-x0.1)) then sh (G.dq a0 a1 x0.1 a3 a4) λx2=>G.bD a0 (i64.wrap (x0.1+1)) a2 a3 a4 (decide (i64.wrap (a7.tdiv 8)<=i64.wrap (x0.1-a1))) x0.2 else sh (G.dq a0 (i64.wrap (x0.1+1)) a2 a3 a4) λx2=>G.bD a0 a1 x0.1 a3 a4 (decide (i64.wrap (a7.tdiv 8)<=i64.wrap (a2-x0.1))) x0.2
def bw (G:af)(n:Nat)(a0:Sl)(a1 a2 a3:Int)(a4:ξ)(a5 a6:Bool)(a7 a8:Int):M Unit:=if decide (0<a1) then iX a0 (i64.wrap (a1-1)) 1 λx0=>iX a0 a8 1 λx1=>eI x0 λx2=>eI x1 λx3=>sh (aw G n a4 x2 x3) λx4=>if !decide (x4<0) then sh (G.dL a0 a1 a2 a8 a4) λx5=>G.bD a0 x5 a2 a3 a4 a5 a6 else dh G n a0 a1 a2 a3 a4 a5 a6 a7 a8 else dh G n a0 a1 a2 a3 a4 a5 a6 a7 a8
def di (G:af)(n:Nat)(a0:Sl)(a1 a2 a3:Int)(a4:ξ)(a5 a6:Bool)(a7 a8 a9:Int):M Unit:=if a5 then if a6 then if decide (a9=1) then sh (G.bW a0 a1 a2 a4) λx0=>if x0 then AI () else bw G n a0 a1 a2 a3 a4 a5 a6 a7 a8 else bw G n a0 a1 a2 a3 a4 a5 a6 a7 a8 else bw G n a0 a1 a2 a3 a4 a5 a6 a7 a8 else bw G n a0 a1 a2 a3 a4 a5 a6 a7 a8
def dj (G:af)(n:Nat)(a0:Sl)(a1 a2 a3:Int)(a4:ξ)(a5 a6:Bool)(a7:Int):M Unit:=sh (G.eH a0 a1 a2 a4) λx0=>if decide (x0.2=2) then sh (fV n a0 a1 a2 a4) λx1=>di G n a0 a1 a2 a3 a4 a5 a6 a7 (i64.wrap (i64.wrap (a2-1)-i64.wrap (x0.1-a1))) 1 else di G n a0 a1 a2 a3 a4 a5 a6 a7 x0.1 x0.2
def eA (G:af)(n:Nat)(a0:Sl)(a1 a2 a3:Int)(a4:ξ)(a5 a6:Bool):M Unit:=if decide (i64.wrap (a2-a1)<=12) then sh (G.dW a0 a1 a2 a4) λx0=>AI () else if decide (a3=0) then sh (G.fP a0 a1 a2 a4) λx0=>AI () else if !a5 then sh (fJ n a0 a1 a2 a4) λx0=>dj G n a0 a1 a2 (i64.wrap (a3-1)) a4 a5 a6 (i64.wrap (a2-a1)) else dj G n a0 a1 a2 a3 a4 a5 a6 (i64.wrap (a2-a1))
def fC (G:af)(n:Nat)(a0:Sl)(a1 a2 a3:Int)(a4:ξ):M Unit:=sh (G.bD a0 a1 a2 a3 a4 true true) λx0=>AI ()
def qv (G:af)(n:Nat)(a0:θ)(a1:Int)(a2:θ)(a3:Int)(a4:μ):M Int:=sh (CJ yd (Ty.one li) 0 a4 (Value.agg #[vi a1,vi a3])) λ(x0:Bool×Int)=>if x0.1 then AI x0.2 else sh (G.p9 a0 a1 a2 a3 a4) λx1=>if !a4.isNone then sh (Ju yd a4 (Value.agg #[vi a1,vi a3]) (vi x1)) λx2=>AI x1 else AI x1
def fF (G:af)(n:Nat)(a0:Sl)(a1 a2:Int)(a3:ξ)(a4 a5:Int):M Unit:=iX a0 (i64.wrap (a5-1)) 1 λx0=>iX a0 a5 1 λx1=>eI x0 λx2=>eI x1 λx3=>iX a0 a5 1 λx4=>sN x4 [vi x2] λx5=>iX a0 (i64.wrap (a5-1)) 1 λx6=>sN x6 [vi x3] λx7=>G.bR a0 a1 a2 a3 a4 (i64.wrap (a5-1))
def cC (G:af)(n:Nat)(a0:Sl)(a1 a2:Int)(a3:ξ)(a4 a5:Int):M Unit:=if decide (a1<a5) then iX a0 a5 1 λx0=>iX a0 (i64.wrap (a5-1)) 1 λx1=>eI x0 λx2=>eI x1 λx3=>sh (kE G n a3 x2 x3) λx4=>if decide (x4<0) then fF G n a0 a1 a2 a3 a4 a5 else AI () else AI ()
def cD (G:af)(n:Nat)(a0:Sl)(a1 a2:Int)(a3:ξ)(a4:Int):M Unit:=if decide (a4<a2) then sh (G.bR a0 a1 a2 a3 a4 a4) λx0=>G.bS a0 a1 a2 a3 (i64.wrap (a4+1)) else AI ()
def iq (G:af)(n:Nat)(a0:Sl)(a1 a2:Int)(a3:ξ):M Unit:=sh (G.bS a0 a1 a2 a3 (i64.wrap (a1+1))) λx0=>AI ()
def dT (G:af)(n:Nat)(a0:Sl)(a1:ξ)(a2 a3 a4 a5:Int):M Unit:=if decide (0<=a5) then sh (G.eC a0 a5 a4 a2 a1) λx0=>G.cY a0 a1 a2 a3 a4 (i64.wrap (a5-1)) else AI ()
def dU (G:af)(n:Nat)(a0:Sl)(a1:ξ)(a2 a3 a4:Int):M Unit:=if decide (0<=a4) then iX a0 (i64.wrap (a2+a4)) 1 λx0=>iX a0 a2 1 λx1=>eI x0 λx2=>eI x1 λx3=>iX a0 a2 1 λx4=>sN x4 [vi x2] λx5=>iX a0 (i64.wrap (a2+a4)) 1 λx6=>sN x6 [vi x3] λx7=>sh (G.eC a0 a3 a4 a2 a1) λx8=>G.cZ a0 a1 a2 a3 (i64.wrap (a4-1)) else AI ()
def kS (G:af)(n:Nat)(a0:Sl)(a1 a2:Int)(a3:ξ):M Unit:=sh (qT (decide (2≠0))) λx0=>sh (G.cY a0 a3 a1 0 (i64.wrap (a2-a1)) (i64.wrap ((i64.wrap (i64.wrap (a2-a1)-1)).tdiv 2))) λx1=>sh (G.cZ a0 a3 a1 0 (i64.wrap (i64.wrap (a2-a1)-1))) λx2=>AI ()
def bP (G:af)(n:Nat)(a0:Addr)(a1:Int):M (Int×Int):=eI a0 λx0=>if decide (x0=0) then AI (a1,1) else if decide (x0=12) then AI (a1,2) else AI (a1,0)
def jk (G:af)(n:Nat)(a0:Sl)(a1 a2:Int)(a3:ξ):M (Int×Int):=nW an [vi 0] λx0=>sh (qT (decide (4≠0))) λx1=>sh (qT (decide (4≠0))) λx2=>sh (qT (decide (4≠0))) λx3=>if decide (8<=i64.wrap (a2-a1)) then if decide (50<=i64.wrap (a2-a1)) then sh (G.cq a0 (i64.wrap (a1+i64.wrap (i64.wrap ((i64.wrap (a2-a1)).tdiv 4)*1))) (some (ak x0)) a3) λx4=>sh (G.cq a0 (i64.wrap (a1+i64.wrap (i64.wrap ((i64.wrap (a2-a1)).tdiv 4)*2))) (some (ak x0)) a3) λx5=>sh (G.cq a0 (i64.wrap (a1+i64.wrap (i64.wrap ((i64.wrap (a2-a1)).tdiv 4)*3))) (some (ak x0)) a3) λx6=>sh (G.dP a0 x4 x5 x6 (some (ak x0)) a3) λx7=>bP G n (ak x0) x7 else sh (G.dP a0 (i64.wrap (a1+i64.wrap (i64.wrap ((i64.wrap (a2-a1)).tdiv 4)*1))) (i64.wrap (a1+i64.wrap (i64.wrap ((i64.wrap (a2-a1)).tdiv 4)*2))) (i64.wrap (a1+i64.wrap (i64.wrap ((i64.wrap (a2-a1)).tdiv 4)*3))) (some (ak x0)) a3) λx4=>bP G n (ak x0) x4 else bP G n (ak x0) (i64.wrap (a1+i64.wrap (i64.wrap ((i64.wrap (a2-a1)).tdiv 4)*2)))
def px (G:af)(n:Nat)(a0:Sl)(a1 a2:Int)(a3:ξ)(a4 a5 a6:Int):M Unit:=if decide (1<=a6) then iX a0 a6 1 λx0=>iX a0 (i64.wrap (a6-1)) 1 λx1=>eI x0 λx2=>eI x1 λx3=>sh (ij G n a3 x2 x3) λx4=>if !decide (x4<0) then AI () else iX a0 (i64.wrap (a6-1)) 1 λx5=>iX a0 a6 1 λx6=>eI x5 λx7=>eI x6 λx8=>iX a0 a6 1 λx9=>sN x9 [vi x7] λcH=>iX a0 (i64.wrap (a6-1)) 1 λx11=>sN x11 [vi x8] λx12=>G.bE a0 a1 a2 a3 a4 a5 (i64.wrap (a6-1)) else AI ()
def py (G:af)(n:Nat)(a0:Sl)(a1 a2:Int)(a3:ξ)(a4 a5 a6:Int):M Unit:=if decide (a6<a2) then iX a0 a6 1 λx0=>iX a0 (i64.wrap (a6-1)) 1 λx1=>eI x0 λx2=>eI x1 λx3=>sh (gT G n a3 x2 x3) λx4=>if !decide (x4<0) then AI () else iX a0 (i64.wrap (a6-1)) 1 λx5=>iX a0 a6 1 λx6=>eI x5 λx7=>eI x6 λx8=>iX a0 a6 1 λx9=>sN x9 [vi x7] λcH=>iX a0 (i64.wrap (a6-1)) 1 λx11=>sN x11 [vi x8] λx12=>G.bF a0 a1 a2 a3 a4 a5 (i64.wrap (a6+1)) else AI ()
def bz (G:af)(n:Nat)(a0:Sl)(a1 a2:Int)(a3:ξ)(a4 a5:Int):M Int:=if decide (a4<a2) then iX a0 a4 1 λx0=>iX a0 (i64.wrap (a4-1)) 1 λx1=>eI x0 λx2=>eI x1 λx3=>sh (ie G n a3 x2 x3) λx4=>if !decide (x4<0) then G.aV a0 a1 a2 a3 (i64.wrap (a4+1)) a5 else AI a4 else AI a4
def dO (G:af)(n:Nat)(a0:Sl)(a1 a2:Int)(a3:ξ)(a4 a5:Int):M (Unit⊕Bool):=if decide (2<=i64.wrap (a2-a4)) then sh (G.bF a0 a1 a2 a3 a4 a5 (i64.wrap (a4+1))) λx0=>G.aW a0 a1 a2 a3 a4 (i64.wrap (a5+1)) else G.aW a0 a1 a2 a3 a4 (i64.wrap (a5+1))
def eG (G:af)(n:Nat)(a0:Sl)(a1 a2:Int)(a3:ξ)(a4 a5:Int):M (Unit⊕Bool):=if decide (a5<5) then sh (G.aV a0 a1 a2 a3 a4 a5) λx0=>if decide (x0=a2) then AI (Sum.inr true) else if decide (i64.wrap (a2-a1)<50) then AI (Sum.inr false) else iX a0 (i64.wrap (x0-1)) 1 λx1=>iX a0 x0 1 λx2=>eI x1 λx3=>eI x2 λx4=>iX a0 x0 1 λx5=>sN x5 [vi x3] λx6=>iX a0 (i64.wrap (x0-1)) 1 λx7=>sN x7 [vi x4] λx8=>if decide (2<=i64.wrap (x0-a1)) then sh (G.bE a0 a1 a2 a3 x0 a5 (i64.wrap (x0-1))) λx9=>dO G n a0 a1 a2 a3 x0 a5 else dO G n a0 a1 a2 a3 x0 a5 else AI (Sum.inl ())
def fu (G:af)(n:Nat)(a0:Sl)(a1 a2:Int)(a3:ξ):M Bool:=sh (G.aW a0 a1 a2 a3 (i64.wrap (a1+1)) 0) (aK (λx0=>AI false) (λx0=>AI x0))
def b7 (G:af)(n:Nat)(a0:Sl)(a1:Int)(a2:ξ)(a3 a4:Int):M Int:=if decide (a3<=a4) then iX a0 a1 1 λx0=>iX a0 a4 1 λx1=>eI x0 λx2=>eI x1 λx3=>sh (kh G n a2 x2 x3) λx4=>if decide (x4<0) then G.bG a0 a1 a2 a3 (i64.wrap (a4-1)) else AI a4 else AI a4
def cd (G:af)(n:Nat)(a0:Sl)(a1:Int)(a2:ξ)(a3 a4:Int):M Int:=if decide (a3<=a4) then iX a0 a1 1 λx0=>iX a0 a3 1 λx1=>eI x0 λx2=>eI x1 λx3=>sh (ke G n a2 x2 x3) λx4=>if !decide (x4<0) then G.bH a0 a1 a2 (i64.wrap (a3+1)) a4 else AI a3 else AI a3
def cm (G:af)(n:Nat)(a0:Sl)(a1:Int)(a2:ξ)(a3 a4:Int):M Int:=sh (G.bH a0 a1 a2 a3 a4) λx0=>sh (G.bG a0 a1 a2 x0 a4) λx1=>if decide (x1<x0) then AI x0 else iX a0 x1 1 λx2=>iX a0 x0 1 λx3=>eI x2 λx4=>eI x3 λx5=>iX a0 x0 1 λx6=>sN x6 [vi x4] λx7=>iX a0 x1 1 λx8=>sN x8 [vi x5] λx9=>G.bI a0 a1 a2 (i64.wrap (x0+1)) (i64.wrap (x1-1))
def gZ (G:af)(n:Nat)(a0:Sl)(a1 a2 a3:Int)(a4:ξ):M Int:=iX a0 a3 1 λx0=>iX a0 a1 1 λx1=>eI x0 λx2=>eI x1 λx3=>iX a0 a1 1 λx4=>sN x4 [vi x2] λx5=>iX a0 a3 1 λx6=>sN x6 [vi x3] λx7=>sh (G.bI a0 a1 a4 (i64.wrap (a1+1)) (i64.wrap (a2-1))) λx8=>AI x8
def dG (G:af)(n:Nat)(a0:Sl)(a1:Int)(a2:ξ)(a3 a4:Int):M Int:=if decide (a3<=a4) then iX a0 a4 1 λx0=>iX a0 a1 1 λx1=>eI x0 λx2=>eI x1 λx3=>sh (mB G n a2 x2 x3) λx4=>if !decide (x4<0) then G.cK a0 a1 a2 a3 (i64.wrap (a4-1)) else AI a4 else AI a4
def dH (G:af)(n:Nat)(a0:Sl)(a1:Int)(a2:ξ)(a3 a4:Int):M Int:=if decide (a3<=a4) then iX a0 a3 1 λx0=>iX a0 a1 1 λx1=>eI x0 λx2=>eI x1 λx3=>sh (mA G n a2 x2 x3) λx4=>if decide (x4<0) then G.cM a0 a1 a2 (i64.wrap (a3+1)) a4 else AI a3 else AI a3
def dI (G:af)(n:Nat)(a0:Sl)(a1:Int)(a2:ξ)(a3 a4:Int):M Int:=sh (G.cM a0 a1 a2 a3 a4) λx0=>sh (G.cK a0 a1 a2 x0 a4) λx1=>if decide (x1<x0) then AI x1 else iX a0 x1 1 λx2=>iX a0 x0 1 λx3=>eI x2 λx4=>eI x3 λx5=>iX a0 x0 1 λx6=>sN x6 [vi x4] λx7=>iX a0 x1 1 λx8=>sN x8 [vi x5] λx9=>G.cN a0 a1 a2 (i64.wrap (x0+1)) (i64.wrap (x1-1))
def dJ (G:af)(n:Nat)(a0:Sl)(a1:Int)(a2:ξ)(a3 a4:Int):M Int:=if decide (a3<=a4) then iX a0 a4 1 λx0=>iX a0 a1 1 λx1=>eI x0 λx2=>eI x1 λx3=>sh (mJ G n a2 x2 x3) λx4=>if !decide (x4<0) then G.cO a0 a1 a2 a3 (i64.wrap (a4-1)) else AI a4 else AI a4
def dK (G:af)(n:Nat)(a0:Sl)(a1:Int)(a2:ξ)(a3 a4:Int):M Int:=if decide (a3<=a4) then iX a0 a3 1 λx0=>iX a0 a1 1 λx1=>eI x0 λx2=>eI x1 λx3=>sh (mI G n a2 x2 x3) λx4=>if decide (x4<0) then G.cP a0 a1 a2 (i64.wrap (a3+1)) a4 else AI a3 else AI a3
def kj (G:af)(n:Nat)(a0:Sl)(a1 a2 a3:Int)(a4:ξ):M (Int×Bool):=iX a0 a3 1 λx0=>iX a0 a1 1 λx1=>eI x0 λx2=>eI x1 λx3=>iX a0 a1 1 λx4=>sN x4 [vi x2] λx5=>iX a0 a3 1 λx6=>sN x6 [vi x3] λx7=>sh (G.cP a0 a1 a4 (i64.wrap (a1+1)) (i64.wrap (a2-1))) λx8=>sh (G.cO a0 a1 a4 x8 (i64.wrap (a2-1))) λx9=>if decide (x9<x8) then iX a0 a1 1 λcH=>iX a0 x9 1 λx11=>eI cH λx12=>eI x11 λx13=>iX a0 x9 1 λx14=>sN x14 [vi x12] λx15=>iX a0 a1 1 λx16=>sN x16 [vi x13] λx17=>AI (x9,true) else iX a0 x9 1 λcH=>iX a0 x8 1 λx11=>eI cH λx12=>eI x11 λx13=>iX a0 x8 1 λx14=>sN x14 [vi x12] λx15=>iX a0 x9 1 λx16=>sN x16 [vi x13] λx17=>sh (G.cN a0 a1 a4 (i64.wrap (x8+1)) (i64.wrap (x9-1))) λx18=>iX a0 a1 1 λx19=>iX a0 x18 1 λx20=>eI x19 λx21=>eI x20 λx22=>iX a0 x18 1 λx23=>sN x23 [vi x21] λx24=>iX a0 a1 1 λx25=>sN x25 [vi x22] λx26=>AI (x18,false)
def fO (G:af)(n:Nat)(a0 a1:θ)(a2:μ)(a3 a4:θ)(a5 a6:Sl)(a7 a8 a9:Int):M (Unit⊕Int):=sh (nn a3) λx0=>iX a5 a7 1 λx1=>sh (nn a4) λx2=>iX a6 a7 1 λx3=>lS x0 4 λx4=>eI x1 λx5=>iX x4 x5 1 λx6=>eI x6 λx7=>lS x2 4 λx8=>eI x3 λx9=>iX x8 x9 1 λcH=>eI cH λx11=>sh (G.iB a0 x7 a1 x11 a2) λx12=>if !decide (x12=0) then AI (Sum.inr x12) else G.jh a0 a1 a2 a3 a4 a5 a6 a8 (i64.wrap (a9+1))
def nJ (G:af)(n:Nat)(a0 a1:θ)(a2:μ)(a3 a4:θ)(a5 a6:Sl)(a7 a8:Int):M (Unit⊕Int):=if decide (a8<a7) then sh (nn a3) λx0=>lI x0 0 λx1=>if decide (x1=10) then sh (nn a3) λx2=>iX a5 a8 1 λx3=>sh (nn a4) λx4=>iX a6 a8 1 λx5=>lS x2 3 λx6=>eI x3 λx7=>iX x6 x7 1 λx8=>eI x8 λx9=>lS x4 3 λcH=>eI x5 λx11=>iX cH x11 1 λx12=>eI x12 λx13=>sh (G.iB a0 x9 a1 x13 none) λx14=>if !decide (x14=0) then AI (Sum.inr x14) else fO G n a0 a1 a2 a3 a4 a5 a6 a8 a7 a8 else fO G n a0 a1 a2 a3 a4 a5 a6 a8 a7 a8 else AI (Sum.inl ())
def rM (G:af)(n:Nat)(a0:θ)(a1:Int)(a2:θ)(a3:Int)(a4:μ):M Int:=sh (nn a0) λx0=>sh (nn a2) λx1=>lS (x0.plus 0) 0 λx2=>iX x2 a1 5 λx3=>lS (x1.plus 0) 0 λx4=>iX x4 a3 5 λx5=>sh (nn (some x3)) λx6=>sh (nn (some x5)) λx7=>lI x6 0 λx8=>lI x7 0 λx9=>if decide (x8<x9) then AI (-1) else sh (nn (some x3)) λcH=>sh (nn (some x5)) λx11=>lI cH 0 λx12=>lI x11 0 λx13=>if decide (x13<x12) then AI 1 else sh (nn (some x3)) λx14=>sh (nn (some x5)) λx15=>lB x14 2 λx16=>lB x15 2 λx17=>if !x16==x17 then sh (nn (some x5)) λx18=>lB x18 2 λx19=>if x19 then AI (-1) else AI 1 else sh (nn (some x3)) λx18=>sh (nn (some x3)) λx19=>sh (nn (some x5)) λx20=>lI x18 0 λx21=>lT x19 1 λx22=>lT x20 1 λx23=>sh (xQ n x21 x22 x23) λx24=>if !decide (x24=0) then AI x24 else sh (G.eW a0 a1) λx25=>sh (G.eW a2 a3) λx26=>sh (G.jh a0 a2 a4 (some x3) (some x5) x25 x26 (if (↑x26.len:Int)<(↑x25.len:Int) then (↑x26.len:Int) else (↑x25.len:Int)) 0) (aK (λx27=>if decide ((↑x25.len:Int)<(↑x26.len:Int)) then AI (-1) else if decide ((↑x26.len:Int)<(↑x25.len:Int)) then AI 1 else AI 0) (λx27=>AI x27))
def bQ (G:af)(n:Nat)(a0:Sl)(a1 a2:Int)(a3:ξ)(a4 a5:Int):M (Unit⊕Unit):=iX a0 (i64.wrap (a2+a4)) 1 λx0=>iX a0 (i64.wrap (a2+a5)) 1 λx1=>eI x0 λx2=>eI x1 λx3=>sh (nI G n a3 x2 x3) λx4=>if !decide (x4<0) then AI (Sum.inr ()) else iX a0 (i64.wrap (a2+a5)) 1 λx5=>iX a0 (i64.wrap (a2+a4)) 1 λx6=>eI x5 λx7=>eI x6 λx8=>iX a0 (i64.wrap (a2+a4)) 1 λx9=>sN x9 [vi x7] λcH=>iX a0 (i64.wrap (a2+a5)) 1 λx11=>sN x11 [vi x8] λx12=>G.da a0 a1 a2 a3 a5
def dV (G:af)(n:Nat)(a0:Sl)(a1 a2:Int)(a3:ξ)(a4:Int):M (Unit⊕Unit):=if decide (a1<=i64.wrap (i64.wrap (2*a4)+1)) then AI (Sum.inl ()) else if decide (i64.wrap (i64.wrap (i64.wrap (2*a4)+1)+1)<a1) then iX a0 (i64.wrap (a2+i64.wrap (i64.wrap (2*a4)+1))) 1 λx0=>iX a0 (i64.wrap (i64.wrap (a2+i64.wrap (i64.wrap (2*a4)+1))+1)) 1 λx1=>eI x0 λx2=>eI x1 λx3=>sh (nH G n a3 x2 x3) λx4=>if decide (x4<0) then bQ G n a0 a1 a2 a3 a4 (i64.wrap (i64.wrap (i64.wrap (2*a4)+1)+1)) else bQ G n a0 a1 a2 a3 a4 (i64.wrap (i64.wrap (2*a4)+1)) else bQ G n a0 a1 a2 a3 a4 (i64.wrap (i64.wrap (2*a4)+1))
def kT (G:af)(n:Nat)(a0:Sl)(a1 a2 a3:Int)(a4:ξ):M Unit:=sh (G.da a0 a2 a3 a4 a1) (aK (λx0=>AI ()) (λx0=>AI ()))
def tK (G:af)(n:Nat)(a0:Sl)(a1:Int)(a2:θ)(a3:ξ):M Int:=sh (G.dP a0 (i64.wrap (a1-1)) a1 (i64.wrap (a1+1)) a2 a3) λx0=>AI x0
def mC (G:af)(n:Nat)(a0:Sl)(a1 a2 a3:Int)(a4:θ)(a5:ξ):M Int:=sh (G.dQ a0 a1 a2 a4 a5) λx0=>sh (G.dQ a0 x0.2 a3 a4 a5) λx1=>sh (G.dQ a0 x0.1 x1.1 a4 a5) λx2=>AI x2.2
def oq (G:af)(n:Nat)(a0:Int)(a1 a2:Addr)(a3:Sl)(a4 a5:Int):M Unit:=if decide (a5<a4) then iX a3 a5 1 λx0=>sN x0 [vi a5] λx1=>G.gb a0 a1 a2 a3 a4 (i64.wrap (a5+1)) else AI ()
def ot (G:af)(n:Nat)(a0:Int)(a1 a2:Addr)(a3:Sl):M Sl:=sh (G.cn a3 (Value.func (Fn.func kA) #[] #[.pointer (some a1),.pointer (some a2)])) λx0=>sh (dz .ptr a1) λ(x1:θ)=>sh (nn x1) λx2=>lS x2 2 λx3=>iX x3 a0 1 λx4=>sN x4 [aA a3] λx5=>AI a3
def qO (G:af)(n:Nat)(a0:θ)(a1:Int):M Sl:=nW dv [.pointer a0] λx0=>sh (dz .ptr (ak x0)) λ(x1:θ)=>sh (nn x1) λx2=>lS (x2.plus 0) 0 λx3=>iX x3 a1 5 λx4=>nW fS [.pointer none] λx5=>sN (ak x5) [.pointer (some x4)] λx6=>sh (dz .ptr (ak x0)) λ(x7:θ)=>sh (nn x7) λx8=>lS x8 2 λx9=>iX x9 a1 1 λcH=>eS cH λx11=>if !x11.a.isNone then sh (dz .ptr (ak x0)) λ(x12:θ)=>sh (nn x12) λx13=>lS x13 2 λx14=>iX x14 a1 1 λx15=>eS x15 λx16=>AI x16 else sh (dz .ptr (ak x5)) λ(x12:θ)=>sh (nn x12) λx13=>lS x13 4 λx14=>sh (xm none an [vi 0] (↑x14.len:Int) (↑x14.len:Int)) λx15=>sh (G.gb a1 (ak x0) (ak x5) x15 (↑x15.len:Int) 0) λx16=>sh (dz .ptr (ak x5)) λ(x17:θ)=>sh (nn x17) λx18=>lI x18 0 λx19=>if decide (x19=10) then sh (dz .ptr (ak x5)) λ(x20:θ)=>sh (nn x20) λx21=>lB x21 2 λx22=>if !x22 then ot G n a1 (ak x0) (ak x5) x15 else sh (dz .ptr (ak x0)) λ(x23:θ)=>sh (nn x23) λx24=>lS x24 2 λx25=>iX x25 a1 1 λx26=>sN x26 [aA x15] λx27=>AI x15 else sh (dz .ptr (ak x0)) λ(x20:θ)=>sh (nn x20) λx21=>lS x21 2 λx22=>iX x22 a1 1 λx23=>sN x23 [aA x15] λx24=>AI x15
def mD (G:af)(n:Nat)(a0:Sl)(a1 a2:Int)(a3:θ)(a4:ξ):M (Int×Int):=iX a0 a2 1 λx0=>iX a0 a1 1 λx1=>eI x0 λx2=>eI x1 λx3=>sh (ph G n a4 x2 x3) λx4=>if decide (x4<0) then sh (nn a3) λx5=>eI x5 λx6=>sh (nn a3) λx7=>sN x7 [vi (i64.wrap (x6+1))] λx8=>AI (a2,a1) else AI (a1,a2)
def pj (G:af)(n:Nat)(a0 a1:Int)(a2 a3:Addr):M Int:=sh (dz .ptr a2) λ(x0:θ)=>sh (dz .ptr a3) λ(x1:θ)=>sh (nn x1) λx2=>lS x2 3 λx3=>iX x3 a0 1 λx4=>eI x4 λx5=>sh (dz .ptr a2) λ(x6:θ)=>sh (dz .ptr a3) λ(x7:θ)=>sh (nn x7) λx8=>lS x8 3 λx9=>iX x9 a1 1 λcH=>eI cH λx11=>sh (G.iB x0 x5 x6 x11 none) λx12=>AI x12
def af.at:Nat->af|0=>⟨λ_ _=>AS,λ_ _ _ _ _ _ _=>AS,λ_ _ _ _ _=>AS,λ_ _ _ _ _=>AS,λ_ _ _ _ _ _=>AS,λ_ _ _ _ _=>AS,λ_ _ _ _=>AS,λ_ _ _ _ _ _=>AS,λ_ _ _ _ _=>AS,λ_ _ _ _=>AS,λ_ _ _ _=>AS,λ_ _ _ _ _ _ _=>AS,λ_ _ _ _ _ _ _=>AS,λ_ _ _ _ _ _=>AS,λ_ _ _ _ _ _=>AS,λ_ _ _ _=>AS,λ_ _ _ _ _=>AS,λ_ _ _ _ _=>AS,λ_ _ _ _ _=>AS,λ_ _ _ _ _=>AS,λ_ _ _ _ _=>AS,λ_ _ _ _ _=>AS,λ_ _ _ _ _=>AS,λ_ _ _ _ _=>AS,λ_ _ _ _ _=>AS,λ_ _ _ _ _=>AS,λ_ _ _ _ _ _ _ _ _=>AS,λ_ _ _ _ _=>AS,λ_ _ _ _ _=>AS,λ_ _ _ _ _=>AS,λ_ _ _ _=>AS,λ_ _ _ _ _ _=>AS,λ_ _ _ _ _ _=>AS,λ_ _=>AS,λ_ _ _ _ _=>AS,λ_ _ _ _=>AS⟩|n+1=>⟨mS (af.at n) n,eA (af.at n) n,fC (af.at n) n,qv (af.at n) n,cC (af.at n) n,cD (af.at n) n,iq (af.at n) n,dT (af.at n) n,dU (af.at n) n,kS (af.at n) n,jk (af.at n) n,px (af.at n) n,py (af.at n) n,bz (af.at n) n,eG (af.at n) n,fu (af.at n) n,b7 (af.at n) n,cd (af.at n) n,cm (af.at n) n,gZ (af.at n) n,dG (af.at n) n,dH (af.at n) n,dI (af.at n) n,dJ (af.at n) n,dK (af.at n) n,kj (af.at n) n,nJ (af.at n) n,rM (af.at n) n,dV (af.at n) n,kT (af.at n) n,tK (af.at n) n,mC (af.at n) n,oq (af.at n) n,qO (af.at n) n,mD (af.at n) n,pj (af.at n) n⟩
def cn (n:Nat):=(af.at n).cn
def bD (n:Nat):=(af.at n).bD
def dq (n:Nat):=(af.at n).dq
def iB (n:Nat):=(af.at n).iB
def bR (n:Nat):=(af.at n).bR
def bS (n:Nat):=(af.at n).bS
def dW (n:Nat):=(af.at n).dW
def cY (n:Nat):=(af.at n).cY
def cZ (n:Nat):=(af.at n).cZ
def fP (n:Nat):=(af.at n).fP
def eH (n:Nat):=(af.at n).eH
def bE (n:Nat):=(af.at n).bE
def bF (n:Nat):=(af.at n).bF
def aV (n:Nat):=(af.at n).aV
def aW (n:Nat):=(af.at n).aW
def bW (n:Nat):=(af.at n).bW
def bG (n:Nat):=(af.at n).bG
def bH (n:Nat):=(af.at n).bH
def bI (n:Nat):=(af.at n).bI
def dL (n:Nat):=(af.at n).dL
def cK (n:Nat):=(af.at n).cK
def cM (n:Nat):=(af.at n).cM
def cN (n:Nat):=(af.at n).cN
def cO (n:Nat):=(af.at n).cO
def cP (n:Nat):=(af.at n).cP
def fD (n:Nat):=(af.at n).fD
def jh (n:Nat):=(af.at n).jh
def p9 (n:Nat):=(af.at n).p9
def da (n:Nat):=(af.at n).da
def eC (n:Nat):=(af.at n).eC
def cq (n:Nat):=(af.at n).cq
def dP (n:Nat):=(af.at n).dP
def gb (n:Nat):=(af.at n).gb
def eW (n:Nat):=(af.at n).eW
def dQ (n:Nat):=(af.at n).dQ
def mF (n:Nat):=(af.at n).mF
def wP (n:Nat):=aw (af.at n) n
def sX (n:Nat):=kE (af.at n) n
def qa (n:Nat):=ie (af.at n) n
def qb (n:Nat):=ij (af.at n) n
def pz (n:Nat):=gT (af.at n) n
def sF (n:Nat):=ke (af.at n) n
def sG (n:Nat):=kh (af.at n) n
def vj (n:Nat):=mI (af.at n) n
def vk (n:Nat):=mJ (af.at n) n
def uS (n:Nat):=mA (af.at n) n
def uT (n:Nat):=mB (af.at n) n
def vX (n:Nat):=nH (af.at n) n
def vY (n:Nat):=nI (af.at n) n
def xd (n:Nat):=ph (af.at n) n
def vl (n:Nat):=dj (af.at n) n
def vm (n:Nat):=di (af.at n) n
def vn (n:Nat):=bw (af.at n) n
def vo (n:Nat):=dh (af.at n) n
def su (n:Nat):=fF (af.at n) n
def uU (n:Nat):=bP (af.at n) n
def pn (n:Nat):=dO (af.at n) n
def FD (n:Nat):=fO (af.at n) n
def uV (n:Nat):=bQ (af.at n) n
def BD (n:Nat):=ot (af.at n) n
abbrev abB (n:Nat):cA:=eN 38 [aU,vA] [] (cn n)
abbrev abC (n:Nat):cA:=eN 62 [aU,av,av,av,vA] [] (dq n)
abbrev akS:=Lr [0,1,1] [(0,aU),(1,av),(2,av),(3,av),(4,vA),(10,jd),(11,jd)] [] ([1,2,3]++rG 10 138) bD
abbrev abD (n:Nat):cA:=eN 83 [GQ,av,GQ,av,tyM] [av] (iB n)
abbrev abE (n:Nat):cA:=eN 88 [aU,av,av,vA] [] (dW n)
abbrev akT:=L1 [0,1] [(0,aU),(1,av),(2,av),(3,vA),(8,av)] [] ([8,9]++rG 12 41) 0 bS
abbrev akU:=L1 (bL 329) [(0,aU),(1,av),(2,av),(3,vA),(8,av),(9,av)] [] ([9]++rG 18 35) 2 bR
abbrev abF (n:Nat):cA:=eN 89 [aU,av,av,vA] [] (fP n)
abbrev akV:=L1 (bL 87) [(0,aU),(3,vA),(8,av),(9,av),(10,av),(11,av)] [] ([11]++rG 20 10) 0 cY
abbrev akW:=L1 (bL 95) [(0,aU),(3,vA),(8,av),(9,av),(12,av)] [] ([12]++rG 32 28) 2 cZ
abbrev abG (n:Nat):cA:=eN 91 [aU,av,av,vA] [av,av] (eH n)
abbrev abH (n:Nat):cA:=eN 93 [aU,av,av,vA] [jd] (bW n)
abbrev akX:=L2 [0,1,0,1,1] [(0,aU),(1,av),(2,av),(3,vA),(9,av),(10,av)] [] [(8,jd)] (rG 8 5++rG 15 126) 0 .ret aW
abbrev akY:=L1 (bL 2123) [(0,aU),(1,av),(2,av),(3,vA),(9,av),(10,av)] [(9,av)] ([9]++rG 19 20) 2 aV
abbrev akZ:=L1 (bL 351819) [(0,aU),(1,av),(2,av),(3,vA),(9,av),(10,av),(11,av)] [] ([11]++rG 68 33) 4 bE
abbrev ak0:=L1 (bL 360011) [(0,aU),(1,av),(2,av),(3,vA),(9,av),(10,av),(12,av)] [] ([12]++rG 107 34) 6 bF
abbrev abI (n:Nat):cA:=eN 94 [aU,av,av,av,vA] [av] (dL n)
abbrev ak1:=L1 [0,0,1,1,1] [(0,aU),(1,av),(4,vA),(11,av),(12,av)] [(11,av)] ([11,12]++rG 31 58) 0 bI
abbrev ak2:=L1 (bL 519) [(0,aU),(1,av),(4,vA),(11,av),(12,av)] [(11,av)] ([11]++rG 31 19) 2 bH
abbrev ak3:=L1 (bL 1159) [(0,aU),(1,av),(4,vA),(11,av),(12,av)] [(12,av)] ([12]++rG 50 18) 4 bG
abbrev abJ (n:Nat):cA:=eN 95 [aU,av,av,av,vA] [av,jd] (fD n)
abbrev ak4:=L1 [0,0,1,1,1] [(0,aU),(1,av),(4,vA),(12,av),(13,av)] [(12,av)] ([12]++rG 32 18) 0 cP
abbrev ak5:=L1 (bL 79) [(0,aU),(1,av),(4,vA),(12,av),(13,av)] [(13,av)] ([13]++rG 50 19) 2 cO
abbrev ak6:=L1 (bL 2559) [(0,aU),(1,av),(4,vA),(12,av),(13,av)] [(13,av)] ([12,13]++rG 105 58) 4 cN
abbrev ak7:=L1 (bL 33279) [(0,aU),(1,av),(4,vA),(12,av),(13,av)] [(12,av)] ([12]++rG 105 18) 6 cM
abbrev ak8:=L1 (bL 74239) [(0,aU),(1,av),(4,vA),(12,av),(13,av)] [(13,av)] ([13]++rG 123 19) 8 cK
abbrev SW (n:Nat):cA:=eN 114 [GQ,av,GQ,av,tyM] [av] (p9 n)
abbrev afO:=L2 (bL 351) [(0,GQ),(2,GQ),(4,tyM),(11,GQ),(12,GQ),(14,aU),(15,aU),(93,av),(94,av)] [] [(10,av)] ([10,16,17,18]++rG 94 62) 1 .ret jh
abbrev SX (n:Nat):cA:=eN 115 [aU,av,av,av,vA] [] (eC n)
abbrev afP:=L2 [0,1] [(0,aU),(2,av),(3,av),(4,vA),(10,av)] [] [] ([10,11]++rG 13 69) 0 .ret da
abbrev SY (n:Nat):cA:=eN 118 [aU,av,GQ,vA] [av] (cq n)
abbrev SZ (n:Nat):cA:=eN 119 [aU,av,av,av,GQ,vA] [av] (dP n)
abbrev S0 (n:Nat):cA:=eN 156 [GQ,av] [aU] (eW n)
abbrev afQ:=L1 (bL 175) [(1,av),(2,aB),(5,aB),(6,aU),(37,av),(38,av)] [] ([7]++rG 38 8) 0 gb
abbrev S3 (n:Nat):cA:=eN 157 [aU,av,av,GQ,vA] [av,av] (dQ n)
abbrev S5 (n:Nat):cA:=eN 198 [av,av,aB,aB] [av] (mF n)
abbrev C18 (n:Nat):List cA:=abB n::abC n::abD n::abE n::abF n::abG n::abH n::abI n::abJ n::SW n::SX n::SY n::SZ n::S0 n::S3 n::S5 n::C17 n
abbrev ak9 (n:Nat):List tB:=[dN 84 [av,av] [av] (wP n)]
def abK:=dR [(17,rG 0 8++[9,10,11,8]++rG 12 5)]
abbrev XC (n:Nat):List (gO Unit):=[jN (bL 1507) [.code (bL 2019),.au 1] [(0,aU),(1,av),(2,av),(3,av),(4,vA),(10,jd),(11,jd),(12,av)] (vl n), jN (bL 10211) [.code (bL 14307),.code (bL 8163),.au 1] [(0,aU),(1,av),(2,av),(3,av),(4,vA),(10,jd),(11,jd),(12,av),(13,av),(14,av)] (vm n), jN (bL 20451) [.code (bL 28643),.code (bL 16355),.au 1] [(0,aU),(1,av),(2,av),(3,av),(4,vA),(10,jd),(11,jd),(12,av),(13,av)] (vn n), jN (bL 24547) [.code (bL 32739),.au 1] [(0,aU),(1,av),(2,av),(3,av),(4,vA),(10,jd),(11,jd),(12,av),(13,av)] (vo n)]
abbrev ala (n:Nat):List tB:=[dN 22 [av,av] [av] (sX n)]
def S6:=dR [(4,rG 0 8++[9,10,11,12,8,13,14,15,16]),(6,rG 0 9++[10,11,12,9]++rG 13 5)]
abbrev XD (n:Nat):List (gO Unit):=[jN (bL 4681) [.au 3,.code (bL 3657)] [(0,aU),(1,av),(2,av),(3,vA),(8,av),(9,av)] (su n)]
def S7:=dR [(10,rG 0 11++[12,13,14,11]++rG 15 5)]
abbrev alb (n:Nat):List (gO (Int×Int)):=[jN (bL 383) [.code (bL 511)] [(11,aB),(13,av)] (uU n)]
abbrev alc (n:Nat):List tB:=[dN 23 [av,av] [av] (qa n), dN 72 [av,av] [av] (qb n), dN 112 [av,av] [av] (pz n)]
def Kx:=dR [(5,rG 0 8++[9,10,11,12,8]++rG 13 5),(11,rG 0 9++[10,11,12,9]++rG 13 5),(16,[0,1,2,3,5,6,7,8,4,9,10,11,12]),(17,rG 0 9++[10,11,12,9]++rG 13 5),(22,[0,1,2,3,5,6,7,8,4,9,10,11,12]),(23,rG 0 9++[10,11,12,9]++rG 13 5)]
abbrev XE (n:Nat):List (gO (Unit⊕Bool)):=[jN (bL 48715) [.code (bL 65099),.au 1,.code (bL 459)] [(0,aU),(1,av),(2,av),(3,vA),(9,av),(10,av)] (pn n)]
abbrev ald (n:Nat):List tB:=[dN 35 [av,av] [av] (sF n), dN 54 [av,av] [av] (sG n)]
def N7:=dR [(1,rG 0 7++[8,9,10,7]++rG 11 5),(3,rG 0 8++[9,10,11,8]++rG 12 5),(5,rG 0 8++[9,10,11,8,12,13,14,15]),(8,rG 0 7++[8,9,10,7]++rG 11 5)]
abbrev ale (n:Nat):List tB:=[dN 36 [av,av] [av] (vj n), dN 54 [av,av] [av] (vk n), dN 109 [av,av] [av] (uS n), dN 127 [av,av] [av] (uT n)]
def Hx:=dR [(1,rG 0 7++[8,9,10,7]++rG 11 5),(3,rG 0 8++[9,10,11,8,12,13,14,15]),(5,rG 0 8++[9,10,11,8]++rG 12 5),(8,rG 0 7++[8,9,10,7]++rG 11 5),(10,rG 0 7++[8,9,10,7]++rG 11 5),(13,rG 0 8++[9,10,11,8,12,13,14,15]),(15,rG 0 8++[9,10,11,8]++rG 12 5),(18,rG 0 7++[8,9,10,7]++rG 11 5),(21,rG 0 7++[8,9,10,7]++rG 11 5)]
def UH:=dR [(1,[0,1,2,3,5,7,8,9,10,12,4,6,14,11,13,15]),(2,[0,1,2,4,5,6,3,7,8,9]),(4,[0,1,2,4,5,6,3,7,8,9]),(6,[0,1,2,4,5,6,3,7,8,9]),(10,[0,1,2,4,5,6,8,9,10,3,7,11,12,13]),(18,[0,1,2,3,5,6,7,11,12,13,14,16,17,18,4,8,9,10,15]++rG 19 5),(21,[0,1,2,3,5,6,7,11,12,13,14,16,17,18,22,4,8,9,10,15,19,20,21,23,24])]
abbrev S8 (n:Nat):List (gO (Unit⊕Int)):=[jN (bL 91743) [.code (bL 124511),.au 2,.code (bL 7775)] [(0,GQ),(2,GQ),(4,tyM),(11,GQ),(12,GQ),(14,aU),(15,aU),(16,av),(93,av),(94,av)] (FD n)]
abbrev afR (n:Nat):List tB:=[dN 24 [av,av] [av] (vX n), dN 43 [av,av] [av] (vY n)]
def UI:=dR [(3,rG 0 11++rG 12 6++[11,18,19,20,21]),(5,rG 0 6++rG 7 5++[6,12,13,14,15]),(6,rG 0 13++rG 14 5++[13]++rG 19 5)]
abbrev S9 (n:Nat):List (gO (Unit⊕Unit)):=[jN (bL 625) [.code (bL 881),.code (bL 497),.au 1] [(0,aU),(2,av),(3,av),(4,vA),(10,av),(11,av)] (uV n)]
abbrev afS (n:Nat):List (gO Sl):=[jN (bL 351) [.code (bL 127)] [(1,av),(2,aB),(5,aB),(6,aU)] (BD n)]
abbrev afT (n:Nat):List tB:=[dN 12 [av,av] [av] (xd n)]
def afU:=dR [(1,[0,1,2,3,5,6,7,4,8,9,10])]
def afV:=dR [(1,[5,13]++rG 0 5++rG 6 7++[14,15,16,17])]
def al (n:Nat):Prop:=aC TZp (abB n)/\aC TZp (abC n)/\aC TZp (abD n)/\aC TZp (abE n)/\aC TZp (abF n)/\aC TZp (abG n)/\aC TZp (abH n)/\aC TZp (abI n)/\aC TZp (abJ n)/\aC TZp (SW n)/\aC TZp (SX n)/\aC TZp (SY n)/\aC TZp (SZ n)/\aC TZp (S0 n)/\aC TZp (S3 n)/\aC TZp (S5 n)
def jF (n:Nat)(H:al n):cS TZp (C18 n):=.cons H.1 (.cons H.2.1 (.cons H.2.2.1 (.cons H.2.2.2.1 (.cons H.2.2.2.2.1 (.cons H.2.2.2.2.2.1 (.cons H.2.2.2.2.2.2.1 (.cons H.2.2.2.2.2.2.2.1 (.cons H.2.2.2.2.2.2.2.2.1 (.cons H.2.2.2.2.2.2.2.2.2.1 (.cons H.2.2.2.2.2.2.2.2.2.2.1 (.cons H.2.2.2.2.2.2.2.2.2.2.2.1 (.cons H.2.2.2.2.2.2.2.2.2.2.2.2.1 (.cons H.2.2.2.2.2.2.2.2.2.2.2.2.2.1 (.cons H.2.2.2.2.2.2.2.2.2.2.2.2.2.2.1 (.cons H.2.2.2.2.2.2.2.2.2.2.2.2.2.2.2 (K17 n))))))))))))))))
def vp (n:Nat)(H:∀m,m<n+1->al m):aC TZp (abB (n+1)):=aL Tryz.f38 (hT:=.m1 (jF n (H n (IT n))))
def abL (n:Nat)(H:al n):sP TZp (ak9 n):=.cons (dA (.cons (lA [aB,aB] (aG n)) (.cons (lA [aB,aB] (H).2.2.2.2.2.2.2.2.2.2.2.2.2.2.2) .nil))) .nil
def XF (n:Nat)(H:∀m,m<n->al m):=akS.k TZp Tryz.f62 n (dr:=abK) (jt:=XC) (hT:=λm hm=>⟨.nil,jF m (H m hm),(abL m (H m hm)),.nil,(.cc (.cc (.cc (.cc .nil))))⟩)
def tX (n:Nat)(H:∀m,m<n+1->al m):aC TZp (abC (n+1)):=aL Tryz.f62 (dr:=abK) (hT:=⟨.nil,jF n (H n (IT n)),(abL n (H n (IT n))),(.cc (XF n (λk hk=>H k (adX hk))) .nil),.nil⟩)
def Cv (n:Nat)(H:∀m,m<n+1->al m):aC TZp (abD (n+1)):=aL Tryz.f83 (hT:=.m1 (jF n (H n (IT n))))
def Ta (n:Nat)(H:al n):sP TZp (ala n):=.cons (dA (.cons (lA [aB,aB] (aG n)) (.cons (lA [aB,aB] (H).2.2.2.2.2.2.2.2.2.2.2.2.2.2.2) .nil))) .nil
def XG (n:Nat)(H:∀m,m<n->al m):=akU.k TZp Tryz.f88 n (dr:=S6) (jt:=XD) (hT:=λm hm=>⟨.nil,jF m (H m hm),(Ta m (H m hm)),.nil,(.cc .nil)⟩)
def XH (n:Nat)(H:∀m,m<n->al m):=akT.k TZp Tryz.f88 n (dr:=S6) (hT:=λm hm=>⟨.nil,jF m (H m hm),(Ta m (H m hm)),(.cc (XG m (λk hk=>H k (anE hk hm))) .nil),.nil⟩)
def re (n:Nat)(H:∀m,m<n+1->al m):aC TZp (abE (n+1)):=aL Tryz.f88 (dr:=S6) (hT:=⟨.nil,jF n (H n (IT n)),(Ta n (H n (IT n))),(.cc (XH n (λk hk=>H k (adX hk))) .nil),.nil⟩)
def XI (n:Nat)(H:∀m,m<n->al m):=akV.k TZp Tryz.f89 n (dr:=S7) (hT:=λm hm=>.m1 (jF m (H m hm)))
def XJ (n:Nat)(H:∀m,m<n->al m):=akW.k TZp Tryz.f89 n (dr:=S7) (hT:=λm hm=>.m1 (jF m (H m hm)))
def tL (n:Nat)(H:∀m,m<n+1->al m):aC TZp (abF (n+1)):=aL Tryz.f89 (dr:=S7) (hT:=.m2 (jF n (H n (IT n))) (.cc (XI n (λk hk=>H k (adX hk))) (.cc (XJ n (λk hk=>H k (adX hk))) .nil)))
def sv (n:Nat)(H:∀m,m<n+1->al m):aC TZp (abG (n+1)):=aL Tryz.f91 (js:=alb n) (hT:=.m3 (jF n (H n (IT n))) (.cc .nil))
def Ky (n:Nat)(H:al n):sP TZp (alc n):=.cons (dA (.cons (lA [aB,aB] (aG n)) (.cons (lA [aB,aB] (H).2.2.2.2.2.2.2.2.2.2.2.2.2.2.2) .nil))) (.cons (dA (.cons (lA [aB,aB] (aG n)) (.cons (lA [aB,aB] (H).2.2.2.2.2.2.2.2.2.2.2.2.2.2.2) .nil))) (.cons (dA (.cons (lA [aB,aB] (aG n)) (.cons (lA [aB,aB] (H).2.2.2.2.2.2.2.2.2.2.2.2.2.2.2) .nil))) .nil))
def XK (n:Nat)(H:∀m,m<n->al m):=akZ.k TZp Tryz.f93 n (dr:=Kx) (hT:=λm hm=>⟨.nil,jF m (H m hm),(Ky m (H m hm)),.nil,.nil⟩)
def XL (n:Nat)(H:∀m,m<n->al m):=ak0.k TZp Tryz.f93 n (dr:=Kx) (hT:=λm hm=>⟨.nil,jF m (H m hm),(Ky m (H m hm)),.nil,.nil⟩)
def XM (n:Nat)(H:∀m,m<n->al m):=akY.k TZp Tryz.f93 n (dr:=Kx) (hT:=λm hm=>⟨.nil,jF m (H m hm),(Ky m (H m hm)),.nil,.nil⟩)
def XN (n:Nat)(H:∀m,m<n->al m):=akX.k TZp Tryz.f93 n (dr:=Kx) (jt:=XE) (hT:=λm hm=>⟨.nil,jF m (H m hm),(Ky m (H m hm)),(.cc (XM m (λk hk=>H k (anE hk hm))) (.cc (XK m (λk hk=>H k (anE hk hm))) (.cc (XL m (λk hk=>H k (anE hk hm))) .nil))),(.cc .nil)⟩)
def ou (n:Nat)(H:∀m,m<n+1->al m):aC TZp (abH (n+1)):=aL Tryz.f93 (dr:=Kx) (hT:=⟨.nil,jF n (H n (IT n)),(Ky n (H n (IT n))),(.cc (XN n (λk hk=>H k (adX hk))) .nil),.nil⟩)
def N8 (n:Nat)(H:al n):sP TZp (ald n):=.cons (dA (.cons (lA [aB,aB] (aG n)) (.cons (lA [aB,aB] (H).2.2.2.2.2.2.2.2.2.2.2.2.2.2.2) .nil))) (.cons (dA (.cons (lA [aB,aB] (aG n)) (.cons (lA [aB,aB] (H).2.2.2.2.2.2.2.2.2.2.2.2.2.2.2) .nil))) .nil)
def XO (n:Nat)(H:∀m,m<n->al m):=ak3.k TZp Tryz.f94 n (dr:=N7) (hT:=λm hm=>⟨.nil,jF m (H m hm),(N8 m (H m hm)),.nil,.nil⟩)
def XP (n:Nat)(H:∀m,m<n->al m):=ak2.k TZp Tryz.f94 n (dr:=N7) (hT:=λm hm=>⟨.nil,jF m (H m hm),(N8 m (H m hm)),.nil,.nil⟩)
def XQ (n:Nat)(H:∀m,m<n->al m):=ak1.k TZp Tryz.f94 n (dr:=N7) (hT:=λm hm=>⟨.nil,jF m (H m hm),(N8 m (H m hm)),(.cc (XP m (λk hk=>H k (anE hk hm))) (.cc (XO m (λk hk=>H k (anE hk hm))) .nil)),.nil⟩)
def qP (n:Nat)(H:∀m,m<n+1->al m):aC TZp (abI (n+1)):=aL Tryz.f94 (dr:=N7) (hT:=⟨.nil,jF n (H n (IT n)),(N8 n (H n (IT n))),(.cc (XQ n (λk hk=>H k (adX hk))) .nil),.nil⟩)
def Hy (n:Nat)(H:al n):sP TZp (ale n):=.cons (dA (.cons (lA [aB,aB] (aG n)) (.cons (lA [aB,aB] (H).2.2.2.2.2.2.2.2.2.2.2.2.2.2.2) .nil))) (.cons (dA (.cons (lA [aB,aB] (aG n)) (.cons (lA [aB,aB] (H).2.2.2.2.2.2.2.2.2.2.2.2.2.2.2) .nil))) (.cons (dA (.cons (lA [aB,aB] (aG n)) (.cons (lA [aB,aB] (H).2.2.2.2.2.2.2.2.2.2.2.2.2.2.2) .nil))) (.cons (dA (.cons (lA [aB,aB] (aG n)) (.cons (lA [aB,aB] (H).2.2.2.2.2.2.2.2.2.2.2.2.2.2.2) .nil))) .nil)))
def XR (n:Nat)(H:∀m,m<n->al m):=ak8.k TZp Tryz.f95 n (dr:=Hx) (hT:=λm hm=>⟨.nil,jF m (H m hm),(Hy m (H m hm)),.nil,.nil⟩)
def XS (n:Nat)(H:∀m,m<n->al m):=ak7.k TZp Tryz.f95 n (dr:=Hx) (hT:=λm hm=>⟨.nil,jF m (H m hm),(Hy m (H m hm)),.nil,.nil⟩)
def XT (n:Nat)(H:∀m,m<n->al m):=ak6.k TZp Tryz.f95 n (dr:=Hx) (hT:=λm hm=>⟨.nil,jF m (H m hm),(Hy m (H m hm)),(.cc (XS m (λk hk=>H k (anE hk hm))) (.cc (XR m (λk hk=>H k (anE hk hm))) .nil)),.nil⟩)
def XU (n:Nat)(H:∀m,m<n->al m):=ak5.k TZp Tryz.f95 n (dr:=Hx) (hT:=λm hm=>⟨.nil,jF m (H m hm),(Hy m (H m hm)),.nil,.nil⟩)
def XV (n:Nat)(H:∀m,m<n->al m):=ak4.k TZp Tryz.f95 n (dr:=Hx) (hT:=λm hm=>⟨.nil,jF m (H m hm),(Hy m (H m hm)),.nil,.nil⟩)
def sY (n:Nat)(H:∀m,m<n+1->al m):aC TZp (abJ (n+1)):=aL Tryz.f95 (dr:=Hx) (hT:=⟨.nil,jF n (H n (IT n)),(Hy n (H n (IT n))),(.cc (XV n (λk hk=>H k (adX hk))) (.cc (XU n (λk hk=>H k (adX hk))) (.cc (XT n (λk hk=>H k (adX hk))) .nil))),.nil⟩)
def Tb (n:Nat)(H:∀m,m<n->al m):=afO.k TZp Tryz.f114 n (dr:=UH) (jt:=S8) (hT:=λm hm=>.m3 (jF m (H m hm)) (.cc .nil))
def DB (n:Nat)(H:∀m,m<n+1->al m):aC TZp (SW (n+1)):=aL Tryz.f114 (dr:=UH) (hT:=.m2 (jF n (H n (IT n))) (.cc (Tb n (λk hk=>H k (adX hk))) .nil))
def UJ (n:Nat)(H:al n):sP TZp (afR n):=.cons (dA (.cons (lA [aB,aB] (aG n)) (.cons (lA [aB,aB] (H).2.2.2.2.2.2.2.2.2.2.2.2.2.2.2) .nil))) (.cons (dA (.cons (lA [aB,aB] (aG n)) (.cons (lA [aB,aB] (H).2.2.2.2.2.2.2.2.2.2.2.2.2.2.2) .nil))) .nil)
def Tc (n:Nat)(H:∀m,m<n->al m):=afP.k TZp Tryz.f115 n (dr:=UI) (jt:=S9) (hT:=λm hm=>⟨.nil,jF m (H m hm),(UJ m (H m hm)),.nil,(.cc .nil)⟩)
def tM (n:Nat)(H:∀m,m<n+1->al m):aC TZp (SX (n+1)):=aL Tryz.f115 (dr:=UI) (hT:=⟨.nil,jF n (H n (IT n)),(UJ n (H n (IT n))),(.cc (Tc n (λk hk=>H k (adX hk))) .nil),.nil⟩)
def qQ (n:Nat)(H:∀m,m<n+1->al m):aC TZp (SY (n+1)):=aL Tryz.f118 (hT:=.m1 (jF n (H n (IT n))))
def uW (n:Nat)(H:∀m,m<n+1->al m):aC TZp (SZ (n+1)):=aL Tryz.f119 (hT:=.m1 (jF n (H n (IT n))))
def Td (n:Nat)(H:∀m,m<n->al m):=afQ.k TZp Tryz.f156 n (hT:=λm hm=>.m1 (jF m (H m hm)))
def xR (n:Nat)(H:∀m,m<n+1->al m):aC TZp (S0 (n+1)):=aL Tryz.f156 (js:=afS n) (hT:=⟨.nil,jF n (H n (IT n)),.nil,(.cc (Td n (λk hk=>H k (adX hk))) .nil),(.cc .nil)⟩)
def afW (n:Nat)(H:al n):sP TZp (afT n):=.cons (dA (.cons (lA [aB,aB] (aG n)) (.cons (lA [aB,aB] (H).2.2.2.2.2.2.2.2.2.2.2.2.2.2.2) .nil))) .nil
def uX (n:Nat)(H:∀m,m<n+1->al m):aC TZp (S3 (n+1)):=aL Tryz.f157 (dr:=afU) (hT:=⟨.nil,jF n (H n (IT n)),(afW n (H n (IT n))),.nil,.nil⟩)
def wQ (n:Nat)(H:∀m,m<n+1->al m):aC TZp (S5 (n+1)):=aL Tryz.f198 (dr:=afV) (hT:=.m1 (jF n (H n (IT n))))
def wR:∀n m,m<n->al m:=uq (P:=al) (⟨eJ Tryz.f38,eJ Tryz.f62,eJ Tryz.f83,eJ Tryz.f88,eJ Tryz.f89,eJ Tryz.f91,eJ Tryz.f93,eJ Tryz.f94,eJ Tryz.f95,eJ Tryz.f114,eJ Tryz.f115,eJ Tryz.f118,eJ Tryz.f119,eJ Tryz.f156,eJ Tryz.f157,eJ Tryz.f198⟩) λk h=>⟨vp k h,tX k h,Cv k h,re k h,tL k h,sv k h,ou k h,qP k h,sY k h,DB k h,tM k h,qQ k h,uW k h,xR k h,uX k h,wQ k h⟩
def K18 (n:Nat):cS TZp (C18 n):=jF n (wR (n+1) n (IT n))
def B0 (n:Nat)(a0:Int)(a1:ζ)(a2:Addr):M ((Sl×Int)×Int):=sh (uR n a0 a1) λx0=>if !x0 then sN a2 [aI,vi 0] λx1=>gL a2 λx2=>AI ((x2.1,x2.2),3) else nW ar [vi a0,.string a1,.bool false,aI,aI] λx1=>sN a2 [.slice (some (ak x1)) 1 2,vi 0] λx2=>gL a2 λx3=>AI ((x3.1,x3.2),0)
def Gq (n:Nat)(a0:Int)(a1:ζ):M ((Sl×Int)×Int):=nW ai [aI,vi 0] λx0=>if decide (a0<0) then sN (ak x0) [aI,vi 0] λx1=>gL (ak x0) λx2=>AI ((x2.1,x2.2),1) else if decide (8<a0) then sN (ak x0) [aI,vi 0] λx1=>gL (ak x0) λx2=>AI ((x2.1,x2.2),1) else B0 n a0 a1 (ak x0)
abbrev aie (n:Nat):cA:=eN 23 [av,mV] [.agg [.sl,.int .i64],av] (Gq n)
abbrev alf (n:Nat):List (gO ((Sl×Int)×Int)):=[jN [0,0,1,1] [.code [1,0,1,1],.code [1,1,1]] [(0,av),(1,mV),(4,aB)] (B0 n)]
def IZ (n:Nat):aC TZp (aie n):=aL Tryz.f23 (js:=alf n) (hT:=.m3 (K18 n) (.cc .nil))
def nK (n:Nat)(a0 a1:Sl×Int):M Bool:=nW ai [aA a0.1,vi a0.2] λx0=>nW ai [aA a1.1,vi a1.2] λx1=>gL (ak x0) λx2=>sh (mz n (x2.1,x2.2)) λx3=>if decide (x3=0) then gL (ak x1) λx4=>sh (mz n (x4.1,x4.2)) λx5=>if decide (x5=0) then gL (ak x0) λx6=>gL (ak x1) λx7=>sh (sM [some (ak x1)] (lr n (x6.1,x6.2))) λx8=>sh (lr n (x7.1,x7.2)) λx9=>sh (lN n (x8.1,x8.2) (x9.1,x9.2)) λcH=>AI cH else AI false else AI false
abbrev apW (n:Nat):cA:=eN 7 [.agg [.sl,.int .i64],.agg [.sl,.int .i64]] [jd] (nK n)
def aoj:=dR [(1,rG 0 10++[11,12010,12,13,14,15])]
def DC (n:Nat):aC TZp (apW n):=aL Tryz.f7 (dr:=aoj) (hT:=.m1 (K18 n))
abbrev C19 (n:Nat):List cA:=aid n::aie n::C18 n
def K19 (n:Nat):cS TZp (C19 n):=.cons (Ma n) (.cons (IZ n) (K18 n))
def vZ:pq (Addr->Sl->Sl->Int->Int->M (Unit⊕Int)):=λG n a0 a1 a2 a3 a4=>if decide (a4<a3) then iX a2 a4 1 λx0=>eB x0 λx1=>if x1 then iX a1 a4 1 λx2=>eI x2 λx3=>if !decide (x3=1) then AI (Sum.inr 3) else G a0 a1 a2 a3 (i64.wrap (a4+1)) else G a0 a1 a2 a3 (i64.wrap (a4+1)) else AI (Sum.inl ())
def rN:=lp vZ
theorem Ey (n:Nat):rN (n+1)=vZ (rN n) n:=rfl
def v7:pq (Addr->Sl->Sl->Int->Int->M (Unit⊕Int)):=λG n a0 a1 a2 a3 a4=>if decide (a4<a3) then iX a2 a4 5 λx0=>nL x0 λx1=>nW ar [vi 0,.string (ofBytes []),.bool false,aI,aI] λx2=>sN (ak x2) [vi x1.1,.string x1.2.1,.bool x1.2.2.1,aA x1.2.2.2.1,aA x1.2.2.2.2] λx3=>iX a1 a4 1 λx4=>eB x4 λx5=>if !x5 then AI (Sum.inr 3) else nL (ak x2) λx6=>sh (BC n (x6.1,x6.2.1,x6.2.2.1,x6.2.2.2.1,x6.2.2.2.2)) λx7=>if !x7 then AI (Sum.inr 3) else G a0 a1 a2 a3 (i64.wrap (a4+1)) else AI (Sum.inl ())
def rO:=lp v7
theorem Ez (n:Nat):rO (n+1)=v7 (rO n) n:=rfl
def yZ (n:Nat)(a0:Addr):M Int:=lS a0 0 λx0=>sh (xm none e9 [.bool false] (↑x0.len:Int) (↑x0.len:Int)) λx1=>gL a0 λx2=>lI a0 1 λx3=>sh (sT n (x2.1,x2.2) x3 x1) λx4=>lS a0 0 λx5=>sh (rO n a0 x1 x5 (↑x5.len:Int) 0) (aK (λx6=>gL a0 λx7=>sh (uB n (x7.1,x7.2)) λx8=>gL a0 λx9=>sh (xN n (x9.1,x9.2)) λcH=>sh (rN n a0 x8 cH (↑cH.len:Int) 0) (aK (λx11=>gL a0 λx12=>sh (zC n (x12.1,x12.2)) λx13=>if x13 then AI 8 else gL a0 λx14=>sh (wO n (x14.1,x14.2)) λx15=>if decide (32<x15.1) then AI 5 else AI 0) (λx11=>AI x11))) (λx6=>AI x6))
def fQ (n:Nat)(a0:Sl×Int):M Int:=nW ai [aA a0.1,vi a0.2] λx0=>lS (ak x0) 0 λx1=>if decide (4096<(↑x1.len:Int)) then AI 7 else lS (ak x0) 0 λx2=>if decide ((↑x2.len:Int)=0) then AI 3 else gL (ak x0) λx3=>sh (wv n (x3.1,x3.2)) λx4=>if !x4 then AI 3 else yZ n (ak x0)
abbrev aif (n:Nat):cA:=eN 12 [.agg [.sl,.int .i64]] [av] (fQ n)
abbrev alg:=L2 (bL 351) [(1,aB),(3,aU),(34,aU),(35,av),(36,av)] [] [(2,av)] ([2,4,5]++rG 36 16) 0 .ret rO
abbrev alh:=L2 (bL 1407) [(1,aB),(6,aU),(55,aU),(56,av),(57,av)] [] [(2,av)] ([2,7,8]++rG 57 14) 2 .ret rN
abbrev ali (n:Nat):List (gO Int):=[jN [0,1,1,1] [.code [1,1,1,1]] [(1,aB)] (yZ n)]
def XW (n:Nat):=alh.k TZp Tryz.f12 n (hT:=λm _=>.m1 (K19 m))
def XX (n:Nat):=alg.k TZp Tryz.f12 n (hT:=λm _=>.m1 (K19 m))
def Kz (n:Nat):aC TZp (aif n):=aL Tryz.f12 (js:=ali n) (hT:=⟨.nil,K19 n,.nil,(.cc (XX n) (.cc (XW n) .nil)),(.cc .nil)⟩)
structure az where
 cV:Addr->Addr->Sl->Int->Int->M Unit
 cW:Addr->Addr->Sl->Int->Int->M Unit
 cX:Addr->Sl->Int->Int->M Unit
 db:θ->Int->M Unit
def kU (G:az)(n:Nat)(a0 a1:Addr)(a2:Sl)(a3 a4:Int):M Unit:=if decide (a4<a3) then iX a2 a4 1 λx0=>eI x0 λx1=>sh (dz .ptr a0) λ(x2:θ)=>sh (dz .ptr a0) λ(x3:θ)=>sh (nn x3) λx4=>lS (x4.plus 0) 0 λx5=>lS a1 3 λx6=>iX x6 x1 1 λx7=>eI x7 λx8=>iX x5 x8 5 λx9=>lT x9 1 λcH=>sh (ic n x2 cH) λx11=>sh (dz .ptr a0) λ(x12:θ)=>lS a1 4 λx13=>iX x13 x1 1 λx14=>eI x14 λx15=>sh (G.db x12 x15) λx16=>G.cV a0 a1 a2 a3 (i64.wrap (a4+1)) else AI ()
def kV (G:az)(n:Nat)(a0 a1:Addr)(a2:Sl)(a3 a4:Int):M Unit:=if decide (a4<a3) then iX a2 a4 1 λx0=>sN x0 [vi a4] λx1=>G.cW a0 a1 a2 a3 (i64.wrap (a4+1)) else AI ()
def kW (G:az)(n:Nat)(a0:Addr)(a1:Sl)(a2 a3:Int):M Unit:=if decide (a3<a2) then iX a1 a3 1 λx0=>eI x0 λx1=>sh (dz .ptr a0) λ(x2:θ)=>sh (G.db x2 x1) λx3=>G.cX a0 a1 a2 (i64.wrap (a3+1)) else AI ()
def eU (G:az)(n:Nat)(a0 a1:Addr):M Unit:=sh (dz .ptr a0) λ(x0:θ)=>sh (nn x0) λx1=>lI x1 4 λx2=>if !decide (x2=0) then AI () else lI a1 0 λx3=>if decide (x3=2) then sh (dz .ptr a0) λ(x4:θ)=>sh (nn x4) λx5=>lT a1 1 λx6=>sh (mG (ofBytes [105]) x6) λx7=>sh (mG x7 (ofBytes [101])) λx8=>sh (dS n (some (x5.plus 2)) x8) λx9=>AI () else if decide (x3=9) then sh (dz .ptr a0) λ(x4:θ)=>sh (nn x4) λx5=>sh (cy n (some (x5.plus 2)) 108) λx6=>lS a1 4 λx7=>sh (G.cX a0 x7 (↑x7.len:Int) 0) λx8=>sh (dz .ptr a0) λ(x9:θ)=>sh (nn x9) λcH=>sh (cy n (some (cH.plus 2)) 101) λx11=>AI () else if decide (x3=10) then sh (dz .ptr a0) λ(x4:θ)=>sh (nn x4) λx5=>sh (cy n (some (x5.plus 2)) 100) λx6=>lS a1 3 λx7=>sh (xm none an [vi 0] (↑x7.len:Int) (↑x7.len:Int)) λx8=>sh (G.cW a0 a1 x8 (↑x8.len:Int) 0) λx9=>sh (cn n x8 (Value.func (Fn.func lE) #[] #[.pointer (some a0),.pointer (some a1)])) λcH=>sh (G.cV a0 a1 x8 (↑x8.len:Int) 0) λx11=>sh (dz .ptr a0) λ(x12:θ)=>sh (nn x12) λx13=>sh (cy n (some (x13.plus 2)) 101) λx14=>AI () else sh (dz .ptr a0) λ(x4:θ)=>lT a1 1 λx5=>sh (ic n x4 x5) λx6=>AI ()
def mT (G:az)(n:Nat)(a0:θ)(a1:Int):M Unit:=nW tS [.pointer a0] λx0=>sh (dz .ptr (ak x0)) λ(x1:θ)=>sh (nn x1) λx2=>lS (x2.plus 0) 0 λx3=>iX x3 a1 5 λx4=>nL x4 λx5=>nW ar [vi 0,.string (ofBytes []),.bool false,aI,aI] λx6=>sN (ak x6) [vi x5.1,.string x5.2.1,.bool x5.2.2.1,aA x5.2.2.2.1,aA x5.2.2.2.2] λx7=>sh (dz .ptr (ak x0)) λ(x8:θ)=>sh (nn x8) λx9=>lI x9 4 λcH=>if decide (cH=0) then sh (dz .ptr (ak x0)) λ(x11:θ)=>sh (dz .ptr (ak x0)) λ(x12:θ)=>nL (ak x6) λx13=>sh (sM [some (ak x0)] (jS n x12 (x13.1,x13.2.1,x13.2.2.1,x13.2.2.2.1,x13.2.2.2.2))) λx14=>sh (nn x11) λx15=>sN (x15.plus 4) [vi x14] λx16=>eU G n (ak x0) (ak x6) else eU G n (ak x0) (ak x6)
def az.at:Nat->az|0=>⟨λ_ _ _ _ _=>AS,λ_ _ _ _ _=>AS,λ_ _ _ _=>AS,λ_ _=>AS⟩|n+1=>⟨kU (az.at n) n,kV (az.at n) n,kW (az.at n) n,mT (az.at n) n⟩
def cV (n:Nat):=(az.at n).cV
theorem vq (n:Nat):cV (n+1)=kU (az.at n) n:=rfl
def cW (n:Nat):=(az.at n).cW
theorem vr (n:Nat):cW (n+1)=kV (az.at n) n:=rfl
def cX (n:Nat):=(az.at n).cX
theorem vt (n:Nat):cX (n+1)=kW (az.at n) n:=rfl
def db (n:Nat):=(az.at n).db
theorem xe (n:Nat):db (n+1)=mT (az.at n) n:=rfl
def y0 (n:Nat):=eU (az.at n) n
abbrev abM (n:Nat):cA:=eN 15 [GQ,av] [] (db n)
abbrev alj:=L1 (bL 21983) [(2,aB),(58,aU),(59,av),(60,av)] [] ([6]++rG 60 8) 1 cX
abbrev alk:=L1 (bL 178143) [(2,aB),(4,aB),(7,aU),(83,av),(84,av)] [] ([8]++rG 84 8) 3 cW
abbrev alm:=L1 (bL 718815) [(2,aB),(4,aB),(95,aU),(96,av),(97,av)] [] ([10]++rG 97 27) 5 cV
abbrev C20 (n:Nat):List cA:=abM n::C19 n
def N9:=dR [(3,[0,1,2,1003,4,5,6]),(8,[3,0,1,2,4,5,6,7]),(29,[6,8]++rG 0 6++[7]++rG 9 6),(30,[1,3,0,2,4,5,6])]
abbrev aln (n:Nat):List (gO Unit):=[jN [0,0,1,1,1] [.code [1,0,1,1,1],.code [1,1,1,1]] [(2,aB),(4,aB)] (y0 n)]
def du (n:Nat):Prop:=aC TZp (abM n)
def Qr (n:Nat)(H:du n):cS TZp (C20 n):=.cons H (K19 n)
def XY (n:Nat)(H:∀m,m<n->du m):=alm.k TZp Tryz.f15 n (dr:=N9) (hT:=λm hm=>.m1 (Qr m (H m hm)))
def XZ (n:Nat)(H:∀m,m<n->du m):=alk.k TZp Tryz.f15 n (dr:=N9) (hT:=λm hm=>.m1 (Qr m (H m hm)))
def X0 (n:Nat)(H:∀m,m<n->du m):=alj.k TZp Tryz.f15 n (dr:=N9) (hT:=λm hm=>.m1 (Qr m (H m hm)))
def vu (n:Nat)(H:∀m,m<n+1->du m):aC TZp (abM (n+1)):=aL Tryz.f15 (dr:=N9) (js:=aln n) (hT:=⟨.nil,Qr n (H n (IT n)),.nil,(.cc (X0 n (λk hk=>H k (adX hk))) (.cc (XZ n (λk hk=>H k (adX hk))) (.cc (XY n (λk hk=>H k (adX hk))) .nil))),(.cc .nil)⟩)
def wS:∀n m,m<n->du m:=uq (P:=du) (eJ Tryz.f15) λk h=>vu k h
def K20 (n:Nat):cS TZp (C20 n):=Qr n (wS (n+1) n (IT n))
def eY (n:Nat)(a0:Int)(a1:ζ):M (Sl×Int):=nW ai [aI,vi 0] λx0=>sh (Gq n a0 a1) λx1=>nW ai [aI,vi 0] λx2=>sN (ak x2) [aA x1.1.1,vi x1.1.2] λx3=>gL (ak x2) λx4=>sN (ak x0) [aA x4.1,vi x4.2] λx5=>gL (ak x0) λx6=>AI (x6.1,x6.2)
abbrev aok (n:Nat):cA:=eN 9 [av,mV] [.agg [.sl,.int .i64]] (eY n)
def BE (n:Nat):aC TZp (aok n):=aL Tryz.f9 (hT:=.m1 (K20 n))
abbrev C21 (n:Nat):List cA:=aif n::aok n::C20 n
def K21 (n:Nat):cS TZp (C21 n):=.cons (Kz n) (.cons (BE n) (K20 n))
def zH (n:Nat)(a0:Sl×Int):M (Int×Bool):=nW ai [aA a0.1,vi a0.2] λx0=>gL (ak x0) λx1=>sh (fQ n (x1.1,x1.2)) λx2=>if !decide (x2=0) then AI (0,false) else gL (ak x0) λx3=>sh (wO n (x3.1,x3.2)) λx4=>AI (x4.1,x4.2)
abbrev abN (n:Nat):cA:=eN 113 [.agg [.sl,.int .i64]] [av,jd] (zH n)
def KA (n:Nat):aC TZp (abN n):=aL Tryz.f113 (hT:=.m1 (K21 n))
def Ak (n:Nat)(a0:Sl×Int):M ((Sl×Int)×Int):=nW ai [aA a0.1,vi a0.2] λx0=>nW ai [aI,vi 0] λx1=>gL (ak x0) λx2=>sh (fQ n (x2.1,x2.2)) λx3=>if !decide (x3=0) then sN (ak x1) [aI,vi 0] λx4=>gL (ak x1) λx5=>AI ((x5.1,x5.2),x3) else gL (ak x0) λx4=>sN (ak x1) [aA x4.1,vi x4.2] λx5=>gL (ak x1) λx6=>AI ((x6.1,x6.2),0)
abbrev aih (n:Nat):cA:=eN 22 [.agg [.sl,.int .i64]] [.agg [.sl,.int .i64],av] (Ak n)
def Hz (n:Nat):aC TZp (aih n):=aL Tryz.f22 (hT:=.m1 (K21 n))
abbrev C22 (n:Nat):List cA:=abN n::aih n::C21 n
def K22 (n:Nat):cS TZp (C22 n):=.cons (KA n) (.cons (Hz n) (K21 n))
def sZ (n:Nat)(a0:Sl×Int):M Int:=nW ai [aA a0.1,vi a0.2] λx0=>gL (ak x0) λx1=>sh (fQ n (x1.1,x1.2)) λx2=>if !decide (x2=0) then AI 3 else gL (ak x0) λx3=>sh (zH n (x3.1,x3.2)) λx4=>if !x4.2 then AI 14 else AI 0
abbrev aij (n:Nat):cA:=eN 82 [.agg [.sl,.int .i64]] [av] (sZ n)
def HA (n:Nat):aC TZp (aij n):=aL Tryz.f82 (hT:=.m1 (K22 n))
def I1:pq (Addr->Sl->Sl->Int->Int->M Sl):=λG n a0 a1 a2 a3 a4=>if decide (a4<a3) then iX a2 a4 2 λx0=>gL x0 λx1=>nW ai [aI,vi 0] λx2=>sN (ak x2) [aA x1.1,vi x1.2] λx3=>gL (ak x2) λx4=>sh (uJ n a1 (x4.1,x4.2)) λx5=>iX x5.1 0 5 λx6=>lS x6 4 λx7=>sh (app false x7 1 an 1 [vi x5.2]) λx8=>iX x5.1 0 5 λx9=>sN (x9.plus 4) [aA x8] λcH=>G a0 x5.1 a2 a3 (i64.wrap (a4+1)) else AI a1
def EL:=lp I1
def I3:pq (Sl->Addr->Sl->Sl->Int->Int->M (Unit⊕Int)):=λG n a0 a1 a2 a3 a4 a5=>if decide (a5<a4) then iX a3 a5 2 λx0=>gL x0 λx1=>nW ai [aI,vi 0] λx2=>sN (ak x2) [aA x1.1,vi x1.2] λx3=>gL (ak x2) λx4=>sh (fQ n (x4.1,x4.2)) λx5=>if !decide (x5=0) then sN a1 [aI,vi 0] λx6=>AI (Sum.inr 3) else G a0 a1 a2 a3 a4 (i64.wrap (a5+1)) else AI (Sum.inl ())
def EM:=lp I3
def KB (n:Nat)(a0:Sl):M ((Sl×Int)×Int):=nW ai [aI,vi 0] λx0=>nW ar [vi 9,.string (ofBytes []),.bool false,aI,aI] λx1=>sh (EM n a0 (ak x0) { a:=some (ak x1),len:=1,cap:=2 } a0 (↑a0.len:Int) 0) (aK (λx2=>sh (EL n (ak x0) { a:=some (ak x1),len:=1,cap:=2 } a0 (↑a0.len:Int) 0) λx3=>sh (Ak n (x3,0)) λx4=>sN (ak x0) [aA x4.1.1,vi x4.1.2] λx5=>gL (ak x0) λx6=>AI ((x6.1,x6.2),x4.2)) (λx2=>gL (ak x0) λx3=>AI ((x3.1,x3.2),x2)))
abbrev aol (n:Nat):cA:=eN 8 [aU] [.agg [.sl,.int .i64],av] (KB n)
abbrev aom:=L2 [0,1,0,1,1] [(0,aU),(2,aB),(4,aU),(12,aU),(13,av),(14,av)] [] [(3,av)] ([3,6]++rG 14 9) 0 .ret EM
abbrev aon:=L1 (bL 87) [(2,aB),(4,aU),(23,aU),(24,av),(25,av)] [(4,aU)] ([4,8,9]++rG 25 21) 2 EL
def abO (n:Nat):=aon.k TZp Tryz.f8 n (hT:=λm _=>.m1 (K22 m))
def abP (n:Nat):=aom.k TZp Tryz.f8 n (hT:=λm _=>.m1 (K22 m))
def Mb (n:Nat):aC TZp (aol n):=aL Tryz.f8 (hT:=.m2 (K22 n) (.cc (abP n) (.cc (abO n) .nil)))
def KD:pq (Addr->Sl->Sl->Int->Int->M (Sl⊕Int)):=λG n a0 a1 a2 a3 a4=>if decide (a4<a3) then iX a2 a4 4 λx0=>sh (cF [.sl,li,.sl,li] x0) λ(x1:Sl×Int×Sl×Int)=>nW Ba [aI,vi 0,aI,vi 0] λx2=>sN (ak x2) [aA x1.1,vi x1.2.1,aA x1.2.2.1,vi x1.2.2.2] λx3=>sh (cF [.sl,li] ((ak x2).plus 0)) λ(x4:Sl×Int)=>sh (Gn n (x4.1,x4.2)) λx5=>if x5 then sN a0 [aI,vi 0] λx6=>AI (Sum.inr 16) else sh (cF [.sl,li] ((ak x2).plus 0)) λ(x6:Sl×Int)=>sh (uJ n a1 (x6.1,x6.2)) λx7=>sh (cF [.sl,li] ((ak x2).plus 2)) λ(x8:Sl×Int)=>sh (uJ n x7.1 (x8.1,x8.2)) λx9=>iX x9.1 0 5 λcH=>lS cH 3 λx11=>sh (app false x11 1 an 1 [vi x7.2]) λx12=>iX x9.1 0 5 λx13=>sN (x13.plus 3) [aA x12] λx14=>iX x9.1 0 5 λx15=>lS x15 4 λx16=>sh (app false x16 1 an 1 [vi x9.2]) λx17=>iX x9.1 0 5 λx18=>sN (x18.plus 4) [aA x17] λx19=>G a0 x9.1 a2 a3 (i64.wrap (a4+1)) else AI (Sum.inl a1)
def Gr:=lp KD
def KE:pq (Bool->Sl->Addr->Sl->Int->Int->M (Unit⊕Int)):=λG n a0 a1 a2 a3 a4 a5=>if decide (a5<a4) then iX a3 a5 4 λx0=>sh (cF [.sl,li,.sl,li] x0) λ(x1:Sl×Int×Sl×Int)=>nW Ba [aI,vi 0,aI,vi 0] λx2=>sN (ak x2) [aA x1.1,vi x1.2.1,aA x1.2.2.1,vi x1.2.2.2] λx3=>sh (cF [.sl,li] ((ak x2).plus 0)) λ(x4:Sl×Int)=>sh (fQ n (x4.1,x4.2)) λx5=>if !decide (x5=0) then sN a2 [aI,vi 0] λx6=>AI (Sum.inr 3) else sh (cF [.sl,li] ((ak x2).plus 2)) λ(x6:Sl×Int)=>sh (fQ n (x6.1,x6.2)) λx7=>if !decide (x7=0) then sN a2 [aI,vi 0] λx8=>AI (Sum.inr 3) else G a0 a1 a2 a3 a4 (i64.wrap (a5+1)) else AI (Sum.inl ())
def Gs:=lp KE
def MM (n:Nat)(a0:Bool)(a1:Sl):M ((Sl×Int)×Int):=nW ai [aI,vi 0] λx0=>sh (Gs n a0 a1 (ak x0) a1 (↑a1.len:Int) 0) (aK (λx1=>nW ar [vi 10,.string (ofBytes []),.bool a0,aI,aI] λx2=>sh (Gr n (ak x0) { a:=some (ak x2),len:=1,cap:=2 } a1 (↑a1.len:Int) 0) (aK (λx3=>sh (Ak n (x3,0)) λx4=>sN (ak x0) [aA x4.1.1,vi x4.1.2] λx5=>gL (ak x0) λx6=>AI ((x6.1,x6.2),x4.2)) (λx3=>gL (ak x0) λx4=>AI ((x4.1,x4.2),x3)))) (λx1=>gL (ak x0) λx2=>AI ((x2.1,x2.2),x1)))
abbrev aik (n:Nat):cA:=eN 10 [jd,aU] [.agg [.sl,.int .i64],av] (MM n)
abbrev alo:=L2 [0,1,0,1] [(0,jd),(1,aU),(4,aB),(13,aU),(14,av),(15,av)] [] [(5,av)] ([5,7]++rG 15 16) 0 .ret Gs
abbrev alp:=L2 (bL 87) [(4,aB),(8,aU),(34,aU),(35,av),(36,av)] [(8,aU)] [(5,av)] ([5,8,10,11,12]++rG 36 43) 2 .ret Gr
def X1 (n:Nat):=alp.k TZp Tryz.f10 n (hT:=λm _=>.m1 (K22 m))
def X2 (n:Nat):=alo.k TZp Tryz.f10 n (hT:=λm _=>.m1 (K22 m))
def Oa (n:Nat):aC TZp (aik n):=aL Tryz.f10 (hT:=.m2 (K22 n) (.cc (X2 n) (.cc (X1 n) .nil)))
end Go.Sh
