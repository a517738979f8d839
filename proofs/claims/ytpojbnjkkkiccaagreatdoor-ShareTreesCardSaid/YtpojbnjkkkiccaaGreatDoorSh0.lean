
import Derived.Test.YtpojbnjkkkiccaaGreatDoorShLib
set_option linter.all false
set_option maxRecDepth 100000
set_option maxHeartbeats 0
namespace Go.Sh
open Go Go.Ago Go.Proofs Go.IntKind
noncomputable abbrev TZp:=Tryz.prog
abbrev J11:=Int×Int×Int×Int×Int×Int×Int×Int×Int×Int×Int
abbrev C0 (n:Nat):List dh:=[eN 196 [.one (.str),.one (.str)] [.one (.int .i64)] (eh n),eN 165 [.one (.int .u64)] [.one (.int .i64)] (db n),eN 166 [.one (.int .u64),.one (.int .i64)] [.one (.str)] (gm n),eN 134 [.one (.f64)] [.one (.int .u64)] (bW n),eN 168 [.one (.str),.one (.int .i64)] [.one (.str)] (strings_Repeat n),eN 138 [.one (.str),.one (.str)] [.one (.str)] (gQ n),eN 83 [.one (.str),.one (.int .u8)] [.one (.int .i64)] (strings_IndexByte n),eN 84 [.one (.str)] [.one (.int .i64),.one (.raw)] (strconv_Atoi n),eN 53 [.one (.str)] [.one (.int .i64),.one (.int .i64)] (rD n),eN 85 [.one (.str),.one (.str)] [.one (.str)] (strings_TrimPrefix n),eN 115 [.one (.int .u64)] [.one (.int .i64)] (fQ n),eN 148 [.one (.ptr)] [.one (.ptr)] (xl n),eN 90 [.one (.str),.one (.str)] [.one (.str),.one (.bool)] (strings_CutPrefix n),eN 123 [.one (.int .i64)] [.one (.str)] (strconv_Itoa n),eN 125 [.one (.int .u64)] [.one (.f64)] (bC n),eN 94 [.one (.str),.one (.int .i64),.one (.int .i64)] [.one (.int .u64),.one (.raw)] (fF n),eN 159 [.one (.str),.one (.str)] [.one (.int .i64)] (jB n)]
def K0 (n:Nat):cV TZp (C0 n):=.cons (qv n) (.cons (vS n) (.cons (zg n) (.cons (Db n) (.cons (FN n) (.cons (BJ n) (.cons (BI n) (.cons (strconv_Atoi_ok n) (.cons (Et n) (.cons (A1 n) (.cons (Eu n) (.cons (FO n) (.cons (BK n) (.cons (Ia n) (.cons (zd n) (.cons (BM n) (.cons (Ab n) .nil))))))))))))))))
def rS:uv (Addr->Bool->Sl->Int->Int->Sl->Int->Int->Sl->Int->Int->M Bool):=λG n a0 a1 a2 a3 a4 a5 a6 a7 a8 a9 a10=>if decide (a10<a9) then iX a8 a10 1 λx0=>eI x0 λx1=>if a1 then if decide (0<=x1) then lS a0 0 λx2=>G a0 (decide (x1<(↑x2.len:Int))) a2 a3 a4 a5 a6 a7 a8 a9 (i64.wrap (a10+1)) else G a0 false a2 a3 a4 a5 a6 a7 a8 a9 (i64.wrap (a10+1)) else G a0 false a2 a3 a4 a5 a6 a7 a8 a9 (i64.wrap (a10+1)) else AI a1
def mC:=lp rS
theorem A3 (n:Nat):mC (n+1)=rS (mC n) n:=rfl
def kh:uv (Addr->Bool->Sl->Int->Int->Sl->Int->Int->M Bool):=λG n a0 a1 a2 a3 a4 a5 a6 a7=>if decide (a7<a6) then iX a5 a7 1 λx0=>eS x0 λx1=>sh (mC n a0 a1 a2 a3 a4 a5 a6 a7 x1 (↑x1.len:Int) 0) λx2=>G a0 x2 a2 a3 a4 a5 a6 (i64.wrap (a7+1)) else AI a1
def mD:=lp kh
theorem o9 (n:Nat):mD (n+1)=kh (mD n) n:=rfl
def rU:uv (Addr->Bool->Sl->Int->Int->M Bool):=λG n a0 a1 a2 a3 a4=>if decide (a4<a3) then iX a2 a4 5 λx0=>nL x0 λx1=>nW av [vi 0,.string (ofBytes []),.bool false,aE,aE] λx2=>sN (ak x2) [vi x1.1,.string x1.2.1,.bool x1.2.2.1,aA x1.2.2.2.1,aA x1.2.2.2.2] λx3=>lS (ak x2) 3 λx4=>lS (ak x2) 4 λx5=>nW aF [aA x4,aA x5] λx6=>sh (mD n a0 a1 a2 a3 a4 { a:=some (ak x6),len:=2,cap:=3 } (↑2:Int) 0) λx7=>G a0 x7 a2 a3 (i64.wrap (a4+1)) else AI a1
def mE:=lp rU
theorem A4 (n:Nat):mE (n+1)=rU (mE n) n:=rfl
def mF (n:Nat)(a0:Addr)(a1:Bool):M Bool:=lS a0 0 λx0=>sh (mE n a0 a1 x0 (↑x0.len:Int) 0) λx1=>AI x1
def vn (n:Nat)(a0:Sl×Int):M Bool:=nW aj [aA a0.1,vi a0.2] λx0=>lI (ak x0) 1 λx1=>if decide (0<=x1) then lI (ak x0) 1 λx2=>lS (ak x0) 0 λx3=>mF n (ak x0) (decide (x2<(↑x3.len:Int))) else mF n (ak x0) false
abbrev agx (n:Nat):dh:=eN 15 [.agg [.sl,.int .i64]] [jc] (vn n)
abbrev aiy:=L1 [0,1,0,1,1] [(1,aw),(3,jc),(22,bj),(23,au),(24,au)] [(3,jc)] ([3,5,7,9]++rG 24 35) 0 mE
abbrev aiz:=L1 (bL 11467) [(1,aw),(3,jc),(22,bj),(23,au),(24,au),(32,bj),(33,au),(34,au)] [(3,jc)] ([3,7,9]++rG 34 24) 2 mD
abbrev aiA:=L1 (bL 2936011) [(1,aw),(3,jc),(22,bj),(23,au),(24,au),(32,bj),(33,au),(34,au),(38,bj),(39,au),(40,au)] [(3,jc)] ([3,9]++rG 40 17) 4 mC
abbrev aiB (n:Nat):List (iB Bool):=[jN [0,0,1,1] [.code [1,0,1,1],.code [1,1,1]] [(1,aw),(3,jc)] (mF n)]
def We (n:Nat):=aiA.k TZp Tryz.f15 n (hT:=λm _=>.m1 (K0 m))
def Wf (n:Nat):=aiz.k TZp Tryz.f15 n (hT:=λm _=>.m2 (K0 m) (.cc (We m) .nil))
def Wg (n:Nat):=aiy.k TZp Tryz.f15 n (hT:=λm _=>.m2 (K0 m) (.cc (Wf m) .nil))
def G5 (n:Nat):aC TZp (agx n):=aR Tryz.f15 (js:=aiB n) (hT:=⟨.nil,K0 n,.nil,(.cc (Wg n) .nil),(.cc .nil)⟩)
structure aQ where
 fW:Int->Addr->Addr->Sl->Int->Int->M Unit
 fX:Addr->Sl->Int->Int->M Unit
 jq:Int->Addr->Addr->Addr->M Unit
def iC (G:aQ)(n:Nat)(x:ξ)(a0:Int):M Unit:=if nG pG x then sh (mr [aw,aw,aw] x) λ(c:Addr×Addr×Addr)=>G.jq a0 c.1 c.2.1 c.2.2 else AS
abbrev pc:=iC
def pQ (G:aQ)(n:Nat)(a0:Int)(a1 a2:Addr)(a3:Sl)(a4 a5:Int):M Unit:=if decide (a5<a4) then iX a3 a5 1 λx0=>eI x0 λx1=>sh (dL .raw a2) λ(x2:ξ)=>sh (iC G n x2 x1) λx3=>G.fW a0 a1 a2 a3 a4 (i64.wrap (a5+1)) else AI ()
def pR (G:aQ)(n:Nat)(a0:Addr)(a1:Sl)(a2 a3:Int):M Unit:=if decide (a3<a2) then iX a1 a3 1 λx0=>eI x0 λx1=>sh (dL .raw a0) λ(x2:ξ)=>sh (pc G n x2 x1) λx3=>G.fX a0 a1 a2 (i64.wrap (a3+1)) else AI ()
def s7 (G:aQ)(n:Nat)(a0:Int)(a1 a2 a3:Addr):M Unit:=eS a1 λx0=>iX x0 a0 1 λx1=>eB x1 λx2=>if x2 then AI () else eS a1 λx3=>iX x3 a0 1 λx4=>sN x4 [.bool true] λx5=>lS a2 0 λx6=>iX x6 a0 5 λx7=>lS x7 3 λx8=>sh (G.fW a0 a2 a3 x8 (↑x8.len:Int) 0) λx9=>lS a2 0 λdZ=>iX dZ a0 5 λx11=>lS x11 4 λx12=>sh (G.fX a3 x12 (↑x12.len:Int) 0) λx13=>AI ()
def aQ.at:Nat->aQ|0=>⟨λ_ _ _ _ _ _=>AS,λ_ _ _ _=>AS,λ_ _ _ _=>AS⟩|n+1=>⟨pQ (aQ.at n) n,pR (aQ.at n) n,s7 (aQ.at n) n⟩
def fW (n:Nat):=(aQ.at n).fW
theorem zh (n:Nat):fW (n+1)=pQ (aQ.at n) n:=rfl
def fX (n:Nat):=(aQ.at n).fX
theorem zi (n:Nat):fX (n+1)=pR (aQ.at n) n:=rfl
def jq (n:Nat):=(aQ.at n).jq
theorem BN (n:Nat):jq (n+1)=s7 (aQ.at n) n:=rfl
def Dc (n:Nat):=iC (aQ.at n) n
def Dd (n:Nat):=pc (aQ.at n) n
abbrev Uk (n:Nat):dh:=eN 31 [au,aw,aw,aw] [] (jq n)
abbrev aiC:=L1 [0,1,0,1,1] [(0,au),(2,aw),(3,aw),(21,bj),(22,au),(23,au)] [] ([6]++rG 23 8) 0 fW
abbrev aiD:=L1 [0,1,1,1,1] [(3,aw),(36,bj),(37,au),(38,au)] [] ([8]++rG 38 8) 2 fX
abbrev C1 (n:Nat):List dh:=Uk n::C0 n
abbrev aiE (n:Nat):List nH:=[dN 27 [au] [] (Dc n), dN 42 [au] [] (Dd n)]
def gR (n:Nat):Prop:=aC TZp (Uk n)
def adU (n:Nat)(H:gR n):cV TZp (C1 n):=.cons H (K0 n)
def RQ (n:Nat)(H:gR n):ni TZp (aiE n):=.cons (bB (.cons (ke [aw,aw,aw] (H)) .nil)) (.cons (bB (.cons (ke [aw,aw,aw] (H)) .nil)) .nil)
def Wh (n:Nat)(H:Hy gR n):=aiC.k TZp Tryz.f31 n (hT:=λm hm=>⟨.nil,adU m ((H.d hm).s),(RQ m ((H.d hm).s)),.nil,.nil⟩)
def Wi (n:Nat)(H:Hy gR n):=aiD.k TZp Tryz.f31 n (hT:=λm hm=>⟨.nil,adU m ((H.d hm).s),(RQ m ((H.d hm).s)),.nil,.nil⟩)
def zj (n:Nat)(H:Hy gR n):aC TZp (Uk (n+1)):=aR Tryz.f31 (hT:=⟨.nil,adU n (H.s),(RQ n (H.s)),(.cc (Wh n H) (.cc (Wi n H) .nil)),.nil⟩)
def uw (n:Nat):gR n:=FF (Q:=gR) (eE Tryz.f31) zj n
def Ev (n:Nat):aC TZp (Uk n):=(uw n)
def K1 (n:Nat):cV TZp (C1 n):=adU n (uw n)
def oz:uv (ζ->Int->Int->M (Unit⊕Bool)):=λG n a0 a1 a2=>if decide (a2<a1) then sh (lj a0 a2) λx0=>if decide (97<=(↑x0.toNat:Int)) then if decide ((↑x0.toNat:Int)<=122) then G a0 a1 (i64.wrap (a2+1)) else if decide (65<=(↑x0.toNat:Int)) then if decide ((↑x0.toNat:Int)<=90) then G a0 a1 (i64.wrap (a2+1)) else if decide (48<=(↑x0.toNat:Int)) then if decide ((↑x0.toNat:Int)<=57) then G a0 a1 (i64.wrap (a2+1)) else if decide ((↑x0.toNat:Int)=95) then G a0 a1 (i64.wrap (a2+1)) else if decide ((↑x0.toNat:Int)=45) then G a0 a1 (i64.wrap (a2+1)) else if decide ((↑x0.toNat:Int)=46) then G a0 a1 (i64.wrap (a2+1)) else if !decide ((↑x0.toNat:Int)=58) then AI (Sum.inr false) else G a0 a1 (i64.wrap (a2+1)) else if decide ((↑x0.toNat:Int)=95) then G a0 a1 (i64.wrap (a2+1)) else if decide ((↑x0.toNat:Int)=45) then G a0 a1 (i64.wrap (a2+1)) else if decide ((↑x0.toNat:Int)=46) then G a0 a1 (i64.wrap (a2+1)) else if !decide ((↑x0.toNat:Int)=58) then AI (Sum.inr false) else G a0 a1 (i64.wrap (a2+1)) else if decide (48<=(↑x0.toNat:Int)) then if decide ((↑x0.toNat:Int)<=57) then G a0 a1 (i64.wrap (a2+1)) else if decide ((↑x0.toNat:Int)=95) then G a0 a1 (i64.wrap (a2+1)) else if decide ((↑x0.toNat:Int)=45) then G a0 a1 (i64.wrap (a2+1)) else if decide ((↑x0.toNat:Int)=46) then G a0 a1 (i64.wrap (a2+1)) else if !decide ((↑x0.toNat:Int)=58) then AI (Sum.inr false) else G a0 a1 (i64.wrap (a2+1)) else if decide ((↑x0.toNat:Int)=95) then G a0 a1 (i64.wrap (a2+1)) else if decide ((↑x0.toNat:Int)=45) then G a0 a1 (i64.wrap (a2+1)) else if decide ((↑x0.toNat:Int)=46) then G a0 a1 (i64.wrap (a2+1)) else if !decide ((↑x0.toNat:Int)=58) then AI (Sum.inr false) else G a0 a1 (i64.wrap (a2+1)) else if decide (65<=(↑x0.toNat:Int)) then if decide ((↑x0.toNat:Int)<=90) then G a0 a1 (i64.wrap (a2+1)) else if decide (48<=(↑x0.toNat:Int)) then if decide ((↑x0.toNat:Int)<=57) then G a0 a1 (i64.wrap (a2+1)) else if decide ((↑x0.toNat:Int)=95) then G a0 a1 (i64.wrap (a2+1)) else if decide ((↑x0.toNat:Int)=45) then G a0 a1 (i64.wrap (a2+1)) else if decide ((↑x0.toNat:Int)=46) then G a0 a1 (i64.wrap (a2+1)) else if !decide ((↑x0.toNat:Int)=58) then AI (Sum.inr false) else G a0 a1 (i64.wrap (a2+1)) else if decide ((↑x0.toNat:Int)=95) then G a0 a1 (i64.wrap (a2+1)) else if decide ((↑x0.toNat:Int)=45) then G a0 a1 (i64.wrap (a2+1)) else if decide ((↑x0.toNat:Int)=46) then G a0 a1 (i64.wrap (a2+1)) else if !decide ((↑x0.toNat:Int)=58) then AI (Sum.inr false) else G a0 a1 (i64.wrap (a2+1)) else if decide (48<=(↑x0.toNat:Int)) then if decide ((↑x0.toNat:Int)<=57) then G a0 a1 (i64.wrap (a2+1)) else if decide ((↑x0.toNat:Int)=95) then G a0 a1 (i64.wrap (a2+1)) else if decide ((↑x0.toNat:Int)=45) then G a0 a1 (i64.wrap (a2+1)) else if decide ((↑x0.toNat:Int)=46) then G a0 a1 (i64.wrap (a2+1)) else if !decide ((↑x0.toNat:Int)=58) then AI (Sum.inr false) else G a0 a1 (i64.wrap (a2+1)) else if decide ((↑x0.toNat:Int)=95) then G a0 a1 (i64.wrap (a2+1)) else if decide ((↑x0.toNat:Int)=45) then G a0 a1 (i64.wrap (a2+1)) else if decide ((↑x0.toNat:Int)=46) then G a0 a1 (i64.wrap (a2+1)) else if !decide ((↑x0.toNat:Int)=58) then AI (Sum.inr false) else G a0 a1 (i64.wrap (a2+1)) else AI (Sum.inl ())
def oY:=lp oz
def Ac (n:Nat)(a0:ζ):M Bool:=sh (oY n a0 (↑a0.size:Int) 0) (dW (λx0=>if decide (1<=(↑a0.size:Int)) then AI (decide ((↑a0.size:Int)<=64)) else AI false) (λx0=>AI x0))
abbrev agy (n:Nat):dh:=eN 32 [pF] [jc] (Ac n)
abbrev aiF:=L2 [0,1,0,1] [(0,pF),(6,au),(7,au)] [] [(2,jc)] ([2,3,4]++rG 7 46) 0 .ret oY
def Wj (n:Nat):=aiF.k TZp Tryz.f32 n (hT:=λm _=>.m1 (K1 m))
def Ls (n:Nat):aC TZp (agy n):=aR Tryz.f32 (hT:=.m2 (K1 n) (.cc (Wj n) .nil))
def s9:uv (Sl->M Sl):=λG n a0=>if decide (0<(↑a0.len:Int)) then iX a0 (i64.wrap ((↑a0.len:Int)-1)) 1 λx0=>sh (dL (.int IntKind.u8) x0) λ(x1:Int)=>if decide (x1=0) then sh (iM a0 0 (i64.wrap ((↑a0.len:Int)-1)) jA 1) λx2=>G x2 else AI a0 else AI a0
def kZ:=lp s9
theorem BP (n:Nat):kZ (n+1)=s9 (kZ n) n:=rfl
def Ad (n:Nat)(a0:Sl):M Sl:=sh (kZ n a0) λx0=>AI x0
abbrev agz (n:Nat):dh:=eN 82 [bj] [bj] (Ad n)
abbrev aiG:=L1 [0,0,1] [(0,bj)] [(0,bj)] ([0]++rG 3 17) 0 kZ
def Wl (n:Nat):=aiG.k TZp Tryz.f82 n (hT:=λm _=>.m1 (K1 m))
def Ib (n:Nat):aC TZp (agz n):=aR Tryz.f82 (hT:=.m2 (K1 n) (.cc (Wl n) .nil))
def ta:uv (Bool->Sl->Int->Addr->M (Sl×Int)):=λG n a0 a1 a2 a3=>if decide (0<(↑a1.len:Int)) then iX a1 (i64.wrap ((↑a1.len:Int)-1)) 1 λx0=>sh (dL (.int IntKind.u8) x0) λ(x1:Int)=>if decide (x1=0) then sh (iM a1 0 (i64.wrap ((↑a1.len:Int)-1)) jA 1) λx2=>G a0 x2 (i64.wrap (a2+1)) a3 else AI (a1,a2) else AI (a1,a2)
def oA:=lp ta
theorem BQ (n:Nat):oA (n+1)=ta (oA n) n:=rfl
def tc:uv (Bool->Sl->Int->Addr->M Sl):=λG n a0 a1 a2 a3=>if decide (0<(↑a1.len:Int)) then iX a1 0 1 λx0=>sh (dL (.int IntKind.u8) x0) λ(x1:Int)=>if decide (x1=0) then sh (iM a1 1 (↑a1.len:Int) jA 1) λx2=>G a0 x2 a2 a3 else AI a1 else AI a1
def oB:=lp tc
theorem BR (n:Nat):oB (n+1)=tc (oB n) n:=rfl
def wF (n:Nat)(a0:Bool)(a1:Sl)(a2:Int):M (Bool×Sl×Int):=nW bw [.bool false,aE,vi 0] λx0=>sh (oB n a0 a1 a2 (ak x0)) λx1=>sh (oA n a0 x1 a2 (ak x0)) λx2=>if decide ((↑x2.1.len:Int)=0) then sN (ak x0) [.bool false,aE,vi 0] λx3=>sh (cT [.bool,.sl,li] (ak x0)) λ(x4:Bool×Sl×Int)=>AI (x4.1,x4.2.1,x4.2.2) else sh (w9 none jA [.int IntKind.u8 0] (↑x2.1.len:Int) (↑x2.1.len:Int)) λx3=>sh (Je x3 x2.1 1) λx4=>sN (ak x0) [.bool a0,aA x3,vi x2.2] λx5=>sh (cT [.bool,.sl,li] (ak x0)) λ(x6:Bool×Sl×Int)=>AI (x6.1,x6.2.1,x6.2.2)
abbrev agA (n:Nat):dh:=eN 86 [jc,bj,au] [.agg [.bool,.sl,.int .i64]] (wF n)
abbrev aiH:=L1 [0,0,1] [(0,jc),(1,bj),(2,au),(6,aw)] [(1,bj)] ([1]++rG 8 11) 0 oB
abbrev aiI:=L1 [0,0,1,1] [(0,jc),(1,bj),(2,au),(6,aw)] [(1,bj),(2,au)] ([1,2]++rG 19 19) 2 oA
def Wm (n:Nat):=aiI.k TZp Tryz.f86 n (hT:=λm _=>.m1 (K1 m))
def Wn (n:Nat):=aiH.k TZp Tryz.f86 n (hT:=λm _=>.m1 (K1 m))
def Ic (n:Nat):aC TZp (agA n):=aR Tryz.f86 (hT:=.m2 (K1 n) (.cc (Wn n) (.cc (Wm n) .nil)))
def rV:uv (ζ->Sl->Int->Int->M Unit):=λG n a0 a1 a2 a3=>if decide (a3<a2) then sh (lj a0 a3) λx0=>iX a1 a3 1 λx1=>sN x1 [.int IntKind.u8 (IntKind.u8.wrap ((↑x0.toNat:Int)-48))] λx2=>G a0 a1 a2 (i64.wrap (a3+1)) else AI ()
def mG:=lp rV
theorem A5 (n:Nat):mG (n+1)=rV (mG n) n:=rfl
def vo (n:Nat)(a0:ζ):M Sl:=sh (w9 none jA [.int IntKind.u8 0] (↑a0.size:Int) (↑a0.size:Int)) λx0=>sh (mG n a0 x0 (↑a0.size:Int) 0) λx1=>AI x0
abbrev agB (n:Nat):dh:=eN 87 [pF] [bj] (vo n)
abbrev aiJ:=L1 [0,1,0,1,1] [(0,pF),(3,bj),(9,au),(10,au)] [] ([4]++rG 10 11) 0 mG
def Wo (n:Nat):=aiJ.k TZp Tryz.f87 n (hT:=λm _=>.m1 (K1 m))
def G6 (n:Nat):aC TZp (agB n):=aR Tryz.f87 (hT:=.m2 (K1 n) (.cc (Wo n) .nil))
def pJ (n:Nat)(a0:Bool×Sl×Int):M Int:=nW bw [.bool a0.1,aA a0.2.1,vi a0.2.2] λx0=>lS (ak x0) 1 λx1=>if decide (400<(↑x1.len:Int)) then AI 6 else lI (ak x0) 2 λx2=>if decide (x2 < -2000) then AI 2 else lI (ak x0) 2 λx3=>if decide (2000<x3) then AI 2 else AI 0
abbrev agC (n:Nat):dh:=eN 88 [.agg [.bool,.sl,.int .i64]] [au] (pJ n)
def BS (n:Nat):aC TZp (agC n):=aR Tryz.f88 (hT:=.m1 (K1 n))
def qw (n:Nat)(a0:Bool×Sl×Int):M ζ:=nW bw [.bool a0.1,aA a0.2.1,vi a0.2.2] λx0=>lB (ak x0) 0 λx1=>if x1 then AI (ofBytes [45]) else AI (ofBytes [])
abbrev ZC (n:Nat):dh:=eN 156 [.agg [.bool,.sl,.int .i64]] [pF] (qw n)
def De (n:Nat):aC TZp (ZC n):=aR Tryz.f156 (hT:=.m1 (K1 n))
def mH:uv (Sl->Sl->Int->Int->M Unit):=λG n a0 a1 a2 a3=>if decide (a3<a2) then iX a1 a3 1 λx0=>sh (dL (.int IntKind.u8) x0) λ(x1:Int)=>iX a0 a3 1 λx2=>sN x2 [.int IntKind.u8 (IntKind.u8.wrap (48+x1))] λx3=>G a0 a1 a2 (i64.wrap (a3+1)) else AI ()
def iD:=lp mH
theorem xm (n:Nat):iD (n+1)=mH (iD n) n:=rfl
def nN (n:Nat)(a0:Bool×Sl×Int):M ζ:=nW bw [.bool a0.1,aA a0.2.1,vi a0.2.2] λx0=>lS (ak x0) 1 λx1=>sh (w9 none jA [.int IntKind.u8 0] (↑x1.len:Int) (↑x1.len:Int)) λx2=>lS (ak x0) 1 λx3=>sh (iD n x2 x3 (↑x3.len:Int) 0) λx4=>sh (strOf x2) λx5=>AI x5
abbrev ZD (n:Nat):dh:=eN 157 [.agg [.bool,.sl,.int .i64]] [pF] (nN n)
abbrev adV:=L1 [0,1,0,1,1] [(3,bj),(11,bj),(12,au),(13,au)] [] ([4,5]++rG 13 11) 0 iD
def RR (n:Nat):=adV.k TZp Tryz.f157 n (hT:=λm _=>.m1 (K1 m))
def A6 (n:Nat):aC TZp (ZD n):=aR Tryz.f157 (hT:=.m2 (K1 n) (.cc (RR n) .nil))
def JY (n a0:Nat):M Bool:=AI !AH a0 a0
abbrev ZE (n:Nat):dh:=eN 162 [.one (.f64)] [jc] (JY n)
def Lu (n:Nat):aC TZp (ZE n):=aR Tryz.f162 (hT:=.m1 (K1 n))
abbrev wm:=Addr->Addr->Int->Int->Int->M (Int⊕(Int×Bool))
def nO (G:wm)(n:Nat)(a0 a1:Addr)(a2 a3 a4:Int):M (Int⊕(Int×Bool)):=eT a1 λx0=>eI a0 λx1=>sh (lj x0 x1) λx2=>eI a0 λx3=>sN a0 [vi (i64.wrap (x3+1))] λx4=>G a0 a1 (i64.wrap (i64.wrap (10*a2)+i64.wrap (IntKind.u8.wrap ((↑x2.toNat:Int)-48)))) a3 (i64.wrap (a4+1))
def jC:uv (wm):=λG n a0 a1 a2 a3 a4=>if decide (a4<a3) then eI a0 λx0=>eT a1 λx1=>if decide ((↑(ByteArray.size x1):Int)<=x0) then AI (Sum.inr (0,false)) else eT a1 λx2=>eI a0 λx3=>sh (lj x2 x3) λx4=>if decide ((↑x4.toNat:Int)<48) then AI (Sum.inr (0,false)) else eT a1 λx5=>eI a0 λx6=>sh (lj x5 x6) λx7=>if decide (57<(↑x7.toNat:Int)) then AI (Sum.inr (0,false)) else nO G n a0 a1 a2 a3 a4 else AI (Sum.inl a2)
def jh:=lp jC
def BT (n:Nat):=nO (jh n) n
def pS (n:Nat)(a0:Int)(a1 a2:Addr):M (Int×Bool):=sh (jh n a1 a2 0 a0 0) (dW (λx0=>AI (x0,true)) (λx0=>AI (x0.1,x0.2)))
abbrev ZF (n:Nat):dh:=eN 100 [au,aw,aw] [au,jc] (pS n)
abbrev adW:=L2 [0,1,0,1,1] [(1,aw),(2,aw),(6,au),(7,au),(8,au)] [(6,au)] [(4,au),(5,jc)] ([4,5,6]++rG 8 29) 0 .ret jh
abbrev RT (n:Nat):List (iB (Int⊕(Int×Bool))):=[jN (bL 5323) [.code (bL 7371),.ar 1,.code (bL 971)] [(1,aw),(2,aw),(6,au),(7,au),(8,au)] (BT n)]
def RU (n:Nat):=adW.k TZp Tryz.f100 n (jt:=RT) (hT:=λm _=>.m3 (K1 m) (.cc .nil))
def yi (n:Nat):aC TZp (ZF n):=aR Tryz.f100 (hT:=.m2 (K1 n) (.cc (RU n) .nil))
def Ae (n:Nat)(a0:Int):M Bool:=sh (pD (decide (4≠0))) λx0=>if decide (a0.tmod 4=0) then sh (pD (decide (100≠0))) λx1=>if !decide (a0.tmod 100=0) then AI true else sh (pD (decide (400≠0))) λx2=>AI (decide (a0.tmod 400=0)) else AI false
abbrev ZG (n:Nat):dh:=eN 167 [au] [jc] (Ae n)
def Lw (n:Nat):aC TZp (ZG n):=aR Tryz.f167 (hT:=.m1 (K1 n))
def vE (n:Nat)(a0:Int):M Int:=sh (pD (decide (4≠0))) λx0=>sh (pD (decide (100≠0))) λx1=>sh (pD (decide (400≠0))) λx2=>AI (i64.wrap (i64.wrap (i64.wrap (i64.wrap (365*a0)+i64.wrap ((i64.wrap (a0+3)).tdiv 4))-i64.wrap ((i64.wrap (a0+99)).tdiv 100))+i64.wrap ((i64.wrap (a0+399)).tdiv 400)))
abbrev ZH (n:Nat):dh:=eN 136 [au] [au] (vE n)
def JZ (n:Nat):aC TZp (ZH n):=aR Tryz.f136 (hT:=.m1 (K1 n))
def td:uv (Sl->Addr->Sl->Int->Int->Sl->Int->Int->M Unit):=λG n a0 a1 a2 a3 a4 a5 a6 a7=>if decide (a7<a6) then iX a5 a7 1 λx0=>eI x0 λx1=>iX a0 x1 1 λx2=>eI x2 λx3=>iX a0 x1 1 λx4=>sN x4 [vi (i64.wrap (x3+1))] λx5=>G a0 a1 a2 a3 a4 a5 a6 (i64.wrap (a7+1)) else AI ()
def oC:=lp td
theorem BU (n:Nat):oC (n+1)=td (oC n) n:=rfl
def tf:uv (Sl->Sl->Int->Int->Sl->Int->Int->M Unit):=λG n a0 a1 a2 a3 a4 a5 a6=>if decide (a6<a5) then iX a4 a6 1 λx0=>eI x0 λx1=>iX a0 x1 1 λx2=>eI x2 λx3=>iX a0 x1 1 λx4=>sN x4 [vi (i64.wrap (x3+1))] λx5=>G a0 a1 a2 a3 a4 a5 (i64.wrap (a6+1)) else AI ()
def oD:=lp tf
theorem BV (n:Nat):oD (n+1)=tf (oD n) n:=rfl
def tg:uv (Sl->Sl->Int->Int->M Unit):=λG n a0 a1 a2 a3=>if decide (a3<a2) then iX a1 a3 5 λx0=>nL x0 λx1=>nW av [vi 0,.string (ofBytes []),.bool false,aE,aE] λx2=>sN (ak x2) [vi x1.1,.string x1.2.1,.bool x1.2.2.1,aA x1.2.2.2.1,aA x1.2.2.2.2] λx3=>lS (ak x2) 3 λx4=>sh (oC n a0 (ak x2) a1 a2 a3 x4 (↑x4.len:Int) 0) λx5=>lS (ak x2) 4 λx6=>sh (oD n a0 a1 a2 a3 x6 (↑x6.len:Int) 0) λx7=>G a0 a1 a2 (i64.wrap (a3+1)) else AI ()
def oE:=lp tg
theorem BW (n:Nat):oE (n+1)=tg (oE n) n:=rfl
def wG (n:Nat)(a0:Sl×Int):M Sl:=nW aj [aA a0.1,vi a0.2] λx0=>lS (ak x0) 0 λx1=>sh (w9 none al [vi 0] (↑x1.len:Int) (↑x1.len:Int)) λx2=>lI (ak x0) 1 λx3=>iX x2 x3 1 λx4=>eI x4 λx5=>iX x2 x3 1 λx6=>sN x6 [vi (i64.wrap (x5+1))] λx7=>lS (ak x0) 0 λx8=>sh (oE n x2 x8 (↑x8.len:Int) 0) λx9=>AI x2
abbrev agD (n:Nat):dh:=eN 18 [.agg [.sl,.int .i64]] [bj] (wG n)
abbrev aiK:=L1 (bL 87) [(3,bj),(22,bj),(23,au),(24,au)] [] ([5,7,9]++rG 24 33) 0 oE
abbrev aiL:=L1 (bL 43415) [(3,bj),(5,aw),(22,bj),(23,au),(24,au),(29,bj),(30,au),(31,au)] [] ([7]++rG 31 11) 2 oC
abbrev aiM:=L1 (bL 47511) [(3,bj),(22,bj),(23,au),(24,au),(43,bj),(44,au),(45,au)] [] ([9]++rG 45 11) 4 oD
def Wq (n:Nat):=aiL.k TZp Tryz.f18 n (hT:=λm _=>.m1 (K1 m))
def Ws (n:Nat):=aiM.k TZp Tryz.f18 n (hT:=λm _=>.m1 (K1 m))
def Wt (n:Nat):=aiK.k TZp Tryz.f18 n (hT:=λm _=>.m2 (K1 m) (.cc (Wq m) (.cc (Ws m) .nil)))
def Ie (n:Nat):aC TZp (agD n):=aR Tryz.f18 (hT:=.m2 (K1 n) (.cc (Wt n) .nil))
structure bz where
 iL:Addr->Addr->Addr->Int->Int->Bool->Sl->Int->Int->Sl->Int->Int->M Bool
 lV:Addr->Addr->Addr->Sl->Int->Int->M (Unit⊕Bool)
 gI:Addr->Addr->Addr->Int->Int->M (Unit⊕Bool)
 jr:(Sl×Int)->Int->Int->M Bool
def vT (G:bz)(n:Nat)(a0 a1 a2:Addr)(a3 a4:Int)(a5:Bool)(a6:Sl)(a7 a8:Int)(a9:Sl)(a10 a11:Int):M Bool:=if decide (a11<a10) then iX a9 a11 1 λx0=>eI x0 λx1=>if a5 then G.iL a0 a1 a2 a3 a4 true a6 a7 a8 a9 a10 (i64.wrap (a11+1)) else gL a0 λx2=>sh (G.jr (x2.1,x2.2) a4 x1) λx3=>if x3 then gL a0 λx4=>lS a1 4 λx5=>iX x5 a3 1 λx6=>eI x6 λx7=>lS a2 4 λx8=>iX x8 a11 1 λx9=>eI x9 λdZ=>sh (G.jr (x4.1,x4.2) x7 dZ) λx11=>G.iL a0 a1 a2 a3 a4 x11 a6 a7 a8 a9 a10 (i64.wrap (a11+1)) else G.iL a0 a1 a2 a3 a4 false a6 a7 a8 a9 a10 (i64.wrap (a11+1)) else AI a5
def vU (G:bz)(n:Nat)(a0 a1 a2:Addr)(a3:Sl)(a4 a5:Int):M (Unit⊕Bool):=if decide (a5<a4) then iX a3 a5 1 λx0=>eI x0 λx1=>lS a2 3 λx2=>sh (G.iL a0 a1 a2 a5 x1 false a3 a4 a5 x2 (↑x2.len:Int) 0) λx3=>if !x3 then AI (Sum.inr false) else G.lV a0 a1 a2 a3 a4 (i64.wrap (a5+1)) else AI (Sum.inl ())
def vV (G:bz)(n:Nat)(a0 a1 a2:Addr)(a3 a4:Int):M (Unit⊕Bool):=if decide (a4<a3) then lI a1 0 λx0=>if decide (x0=10) then gL a0 λx1=>lS a1 3 λx2=>iX x2 a4 1 λx3=>eI x3 λx4=>lS a2 3 λx5=>iX x5 a4 1 λx6=>eI x6 λx7=>sh (G.jr (x1.1,x1.2) x4 x7) λx8=>if !x8 then AI (Sum.inr false) else gL a0 λx9=>lS a1 4 λdZ=>iX dZ a4 1 λx11=>eI x11 λx12=>lS a2 4 λx13=>iX x13 a4 1 λfJ=>eI fJ λx15=>sh (G.jr (x9.1,x9.2) x12 x15) λsK=>if !sK then AI (Sum.inr false) else G.gI a0 a1 a2 a3 (i64.wrap (a4+1)) else gL a0 λx1=>lS a1 4 λx2=>iX x2 a4 1 λx3=>eI x3 λx4=>lS a2 4 λx5=>iX x5 a4 1 λx6=>eI x6 λx7=>sh (G.jr (x1.1,x1.2) x4 x7) λx8=>if !x8 then AI (Sum.inr false) else G.gI a0 a1 a2 a3 (i64.wrap (a4+1)) else AI (Sum.inl ())
def vW (G:bz)(n:Nat)(a0 a1 a2:Addr):M Bool:=lI a1 0 λx0=>if decide (x0=10) then lB a1 2 λx1=>if !x1 then lS a1 3 λx2=>sh (G.lV a0 a1 a2 x2 (↑x2.len:Int) 0) (dW (λx3=>AI true) (λx3=>AI x3)) else lS a1 4 λx2=>sh (G.gI a0 a1 a2 (↑x2.len:Int) 0) (dW (λx3=>AI true) (λx3=>AI x3)) else lS a1 4 λx1=>sh (G.gI a0 a1 a2 (↑x1.len:Int) 0) (dW (λx2=>AI true) (λx2=>AI x2))
def Ag (G:bz)(n:Nat)(a0:Sl×Int)(a1 a2:Int):M Bool:=nW aj [aA a0.1,vi a0.2] λx0=>sh (dP 14) λx1=>lS (ak x0) 0 λx2=>iX x2 a1 5 λx3=>nL x3 λx4=>lS (ak x0) 0 λx5=>iX x5 a2 5 λx6=>nL x6 λx7=>sh (iI (some (x1+10)) av [vi 0,.string (ofBytes []),.bool false,aE,aE]) λx8=>sh (iI (some (x1+11)) av [vi 0,.string (ofBytes []),.bool false,aE,aE]) λx9=>sh (tX [some ((ak x0).plus 0),some x6] (rN (ak x8) [vi x4.1,.string x4.2.1,.bool x4.2.2.1,aA x4.2.2.2.1,aA x4.2.2.2.2])) λdZ=>sN (ak x9) [vi x7.1,.string x7.2.1,.bool x7.2.2.1,aA x7.2.2.2.1,aA x7.2.2.2.2] λx11=>lI (ak x8) 0 λx12=>lI (ak x9) 0 λx13=>if !decide (x12=x13) then AI false else lT (ak x8) 1 λfJ=>lT (ak x9) 1 λx15=>if !qk fJ x15 then AI false else lB (ak x8) 2 λsK=>lB (ak x9) 2 λx17=>if !sK==x17 then AI false else lS (ak x8) 4 λuy=>lS (ak x9) 4 λx19=>if !decide ((↑uy.len:Int)=(↑x19.len:Int)) then AI false else vW G n (ak x0) (ak x8) (ak x9)
def bz.at:Nat->bz|0=>⟨λ_ _ _ _ _ _ _ _ _ _ _ _=>AS,λ_ _ _ _ _ _=>AS,λ_ _ _ _ _=>AS,λ_ _ _=>AS⟩|n+1=>⟨vT (bz.at n) n,vU (bz.at n) n,vV (bz.at n) n,Ag (bz.at n) n⟩
def iL (n:Nat):=(bz.at n).iL
theorem Ew (n:Nat):iL (n+1)=vT (bz.at n) n:=rfl
def lV (n:Nat):=(bz.at n).lV
theorem Ex (n:Nat):lV (n+1)=vU (bz.at n) n:=rfl
def gI (n:Nat):=(bz.at n).gI
theorem Ey (n:Nat):gI (n+1)=vV (bz.at n) n:=rfl
def jr (n:Nat):=(bz.at n).jr
theorem Ig (n:Nat):jr (n+1)=Ag (bz.at n) n:=rfl
def Ly (n:Nat):=vW (bz.at n) n
abbrev ZI (n:Nat):dh:=eN 34 [.agg [.sl,.int .i64],au,au] [jc] (jr n)
abbrev aiN:=L2 (bL 663) [(3,aw),(7,aw),(8,aw),(62,bj),(63,au),(64,au)] [] [(6,jc)] ([6]++rG 9 5++rG 64 38) 0 .ret lV
abbrev aiO:=L1 (bL 707735) [(3,aw),(7,aw),(8,aw),(9,au),(10,au),(11,jc),(62,bj),(63,au),(64,au),(70,bj),(71,au),(72,au)] [(11,jc)] ([11,12,13]++rG 72 27) 2 iL
abbrev aiP:=L2 (bL 175) [(3,aw),(7,aw),(8,aw),(104,au),(105,au)] [] [(6,jc)] ([6,14]++rG 105 37) 4 .ret gI
abbrev C2 (n:Nat):List dh:=ZI n::C1 n
def NB:=dR [(1,[0,2,5,7,1,3,4,6,8,9,10,11,10007012,13]),(12,[0,1,3,4,2,5,6,8,10,13,15,7,9,11,12,14]++rG 16 6),(21,[0,1,2,3,5,7,10,12,4,6,8,9,11]++rG 13 6++[20,22,25,27,19,21,23,24,26]++rG 28 5)]
abbrev aiQ (n:Nat):List (iB Bool):=[jN [0,0,1,1,1] [.code [1,0,1,1,1],.code [1,1,1,1]] [(3,aw),(7,aw),(8,aw)] (Ly n)]
def nP (n:Nat):Prop:=aC TZp (ZI n)
def ZJ (n:Nat)(H:nP n):cV TZp (C2 n):=.cons H (K1 n)
def Wu (n:Nat)(H:Hy nP n):=aiO.k TZp Tryz.f34 n (dr:=NB) (hT:=λm hm=>.m1 (ZJ m ((H.d hm).s)))
def Wv (n:Nat)(H:Hy nP n):=aiN.k TZp Tryz.f34 n (dr:=NB) (hT:=λm hm=>.m2 (ZJ m ((H.d hm).s)) (.cc (Wu m (H.d hm)) .nil))
def Ww (n:Nat)(H:Hy nP n):=aiP.k TZp Tryz.f34 n (dr:=NB) (hT:=λm hm=>.m1 (ZJ m ((H.d hm).s)))
def Ez (n:Nat)(H:Hy nP n):aC TZp (ZI (n+1)):=aR Tryz.f34 (dr:=NB) (js:=aiQ n) (hT:=⟨.nil,ZJ n (H.s),.nil,(.cc (Wv n H) (.cc (Ww n H) .nil)),(.cc .nil)⟩)
def G7 (n:Nat):nP n:=FF (Q:=nP) (eE Tryz.f34) Ez n
def K2 (n:Nat):cV TZp (C2 n):=ZJ n (G7 n)
structure az where
 eH:Addr->Addr->Addr->Addr->Addr->Int->M Int
 eJ:Addr->Addr->Addr->Addr->Addr->Addr->Addr->ξ->Sl->Int->Int->M Unit
 eK:Addr->Addr->Addr->Addr->Addr->Addr->Addr->Addr->ξ->Sl->Int->Int->M Unit
 fY:Int->Addr->Addr->Addr->Addr->Addr->Addr->Addr->Addr->Addr->M Unit
 gp:Int->Addr->Addr->Addr->Addr->Addr->M Unit
def fL (G:az)(n:Nat)(x:ξ)(a0:Int):M Unit:=if nG jR x then sh (mr [aw,aw,aw,aw,aw] x) λ(c:Addr×Addr×Addr×Addr×Addr)=>G.gp a0 c.1 c.2.1 c.2.2.1 c.2.2.2.1 c.2.2.2.2 else AS
abbrev lW:=fL
def kq (G:az)(n:Nat)(x:ξ)(a0:Int):M Unit:=if nG lD x then sh (mr [aw,aw,aw,aw,aw,aw,aw,aw,aw] x) λ(c:Addr×Addr×Addr×Addr×Addr×Addr×Addr×Addr×Addr)=>G.fY a0 c.1 c.2.1 c.2.2.1 c.2.2.2.1 c.2.2.2.2.1 c.2.2.2.2.2.1 c.2.2.2.2.2.2.1 c.2.2.2.2.2.2.2.1 c.2.2.2.2.2.2.2.2 else AS
def mI (G:az)(n:Nat)(a0 a1 a2 a3 a4:Addr)(a5:Int):M Int:=eS a0 λx0=>eS a0 λx1=>iX x0 (i64.wrap ((↑x1.len:Int)-1)) 1 λx2=>eI x2 λx3=>eS a0 λx4=>eS a0 λx5=>sh (iM x4 0 (i64.wrap ((↑x5.len:Int)-1)) al 1) λx6=>sN a0 [aA x6] λx7=>eS a1 λx8=>iX x8 x3 1 λx9=>sN x9 [.bool false] λdZ=>eS a3 λx11=>eS a2 λx12=>iX x11 x3 1 λx13=>sN x13 [vi (↑x12.len:Int)] λfJ=>eI a4 λx15=>if decide (x3=x15) then AI (i64.wrap (a5+1)) else G.eH a0 a1 a2 a3 a4 (i64.wrap (a5+1))
def mJ (G:az)(n:Nat)(a0 a1 a2 a3 a4 a5 a6:Addr)(a7:ξ)(a8:Sl)(a9 a10:Int):M Unit:=if decide (a10<a9) then iX a8 a10 1 λx0=>eI x0 λx1=>sh (lW G n a7 x1) λx2=>G.eJ a0 a1 a2 a3 a4 a5 a6 a7 a8 a9 (i64.wrap (a10+1)) else AI ()
def mK (G:az)(n:Nat)(a0 a1 a2 a3 a4 a5 a6 a7:Addr)(a8:ξ)(a9:Sl)(a10 a11:Int):M Unit:=if decide (a11<a10) then iX a9 a11 1 λx0=>eI x0 λx1=>sh (fL G n a8 x1) λx2=>G.eK a0 a1 a2 a3 a4 a5 a6 a7 a8 a9 a10 (i64.wrap (a11+1)) else AI ()
def pT (G:az)(n:Nat)(a0:Int)(a1 a2 a3 a4 a5 a6 a7 a8 a9:Addr):M Unit:=nW al [vi a0] λx0=>eI a1 λx1=>sN a1 [vi (i64.wrap (x1+1))] λx2=>eS a2 λx3=>sh (dL li (ak x0)) λ(x4:Int)=>eS a3 λx5=>sh (dL li (ak x0)) λ(x6:Int)=>eI a1 λx7=>iX x3 x4 1 λx8=>eI a1 λx9=>sh (tX [some a3,some (ak x0),some a1] (rN x8 [vi x7])) λdZ=>iX x5 x6 1 λx11=>sN x11 [vi x9] λx12=>eS a4 λx13=>sh (dL li (ak x0)) λ(fJ:Int)=>sh (app false x13 1 al 1 [vi fJ]) λx15=>sN a4 [aA x15] λsK=>eS a5 λx17=>sh (dL li (ak x0)) λ(uy:Int)=>iX x17 uy 1 λx19=>sN x19 [.bool true] λx20=>lS a7 0 λx21=>sh (dL li (ak x0)) λ(x22:Int)=>iX x21 x22 5 λx23=>lS x23 3 λx24=>sh (G.eK a2 a3 a4 a5 a7 a8 a9 (ak x0) (Value.func (Fn.func jR) #[] #[.pointer (some a2),.pointer (some a6),.pointer (some a3),.pointer (some (ak x0)),.pointer (some a5)]) x24 (↑x24.len:Int) 0) λx25=>lS a7 0 λx26=>sh (dL li (ak x0)) λ(x27:Int)=>iX x26 x27 5 λx28=>lS x28 4 λx29=>sh (G.eJ a2 a3 a4 a5 a8 a9 (ak x0) (Value.func (Fn.func jR) #[] #[.pointer (some a2),.pointer (some a6),.pointer (some a3),.pointer (some (ak x0)),.pointer (some a5)]) x29 (↑x29.len:Int) 0) λx30=>eS a3 λx31=>sh (dL li (ak x0)) λ(x32:Int)=>iX x31 x32 1 λx33=>eI x33 λx34=>eS a2 λx35=>sh (dL li (ak x0)) λ(x36:Int)=>iX x35 x36 1 λx37=>eI x37 λx38=>if !decide (x34=x38) then AI () else sh (G.eH a4 a5 a8 a9 (ak x0) 0) λx39=>eS a8 λx40=>sh (app false x40 1 al 1 [vi x39]) λx41=>sN a8 [aA x41] λx42=>AI ()
def nQ (G:az)(n:Nat)(a0:Int)(a1 a2 a3 a4 a5:Addr):M Unit:=eS a1 λx0=>iX x0 a0 1 λx1=>eI x1 λx2=>if decide (x2=0) then sh (dL .raw a2) λ(x3:ξ)=>sh (kq G n x3 a0) λx4=>eS a3 λx5=>eI a4 λx6=>eS a3 λx7=>eI a4 λx8=>iX x7 x8 1 λx9=>eI x9 λdZ=>eS a3 λx11=>iX x11 a0 1 λx12=>eI x12 λx13=>iX x5 x6 1 λfJ=>sN fJ [vi (if x13<dZ then x13 else dZ)] λx15=>AI () else eS a5 λx3=>iX x3 a0 1 λx4=>eB x4 λx5=>if x5 then eS a3 λx6=>eI a4 λx7=>eS a3 λx8=>eI a4 λx9=>iX x8 x9 1 λdZ=>eI dZ λx11=>eS a1 λx12=>iX x12 a0 1 λx13=>eI x13 λfJ=>iX x6 x7 1 λx15=>sN x15 [vi (if fJ<x11 then fJ else x11)] λsK=>AI () else AI ()
def az.at:Nat->az|0=>⟨λ_ _ _ _ _ _=>AS,λ_ _ _ _ _ _ _ _ _ _ _=>AS,λ_ _ _ _ _ _ _ _ _ _ _ _=>AS,λ_ _ _ _ _ _ _ _ _ _=>AS,λ_ _ _ _ _ _=>AS⟩|n+1=>⟨mI (az.at n) n,mJ (az.at n) n,mK (az.at n) n,pT (az.at n) n,nQ (az.at n) n⟩
def eH (n:Nat):=(az.at n).eH
theorem xo (n:Nat):eH (n+1)=mI (az.at n) n:=rfl
def eJ (n:Nat):=(az.at n).eJ
theorem xp (n:Nat):eJ (n+1)=mJ (az.at n) n:=rfl
def eK (n:Nat):=(az.at n).eK
theorem xq (n:Nat):eK (n+1)=mK (az.at n) n:=rfl
def fY (n:Nat):=(az.at n).fY
theorem zk (n:Nat):fY (n+1)=pT (az.at n) n:=rfl
def gp (n:Nat):=(az.at n).gp
theorem xR (n:Nat):gp (n+1)=nQ (az.at n) n:=rfl
def Ah (n:Nat):=fL (az.at n) n
def Ai (n:Nat):=lW (az.at n) n
def yK (n:Nat):=kq (az.at n) n
abbrev Ul (n:Nat):dh:=eN 56 [au,aw,aw,aw,aw,aw,aw,aw,aw,aw] [] (fY n)
abbrev aiR:=L1 (bL 703) [(2,aw),(3,aw),(4,aw),(5,aw),(7,aw),(8,aw),(9,aw),(10,aw),(11,sH),(41,bj),(42,au),(43,au)] [] ([13]++rG 43 8) 0 eK
abbrev aiS:=L1 (bL 1407) [(2,aw),(3,aw),(4,aw),(5,aw),(8,aw),(9,aw),(10,aw),(11,sH),(56,bj),(57,au),(58,au)] [] ([15]++rG 58 8) 2 eJ
abbrev aiT:=L1 (bL 5119) [(4,aw),(5,aw),(8,aw),(9,aw),(10,aw),(16,au)] [(16,au)] ([16,17]++rG 75 24) 4 eH
abbrev ZK (n:Nat):dh:=eN 57 [au,aw,aw,aw,aw,aw] [] (gp n)
abbrev C3 (n:Nat):List dh:=Ul n::ZK n::C2 n
abbrev aiU (n:Nat):List nH:=[dN 47 [au] [] (Ah n), dN 62 [au] [] (Ai n)]
def ND:=dR [(2,rG 0 5++[6,5,6004003007,8,9]),(16,rG 0 9)]
abbrev aiV (n:Nat):List nH:=[dN 12 [au] [] (yK n)]
def aiW:=dR [(2,[7]++rG 0 7++rG 8 5),(4,[7]++rG 0 7++rG 8 5)]
def cC (n:Nat):Prop:=aC TZp (Ul n)/\aC TZp (ZK n)
def Wx (n:Nat)(H:cC n):cV TZp (C3 n):=.cons H.1 (.cons H.2 (K2 n))
def NF (n:Nat)(H:cC n):ni TZp (aiU n):=.cons (bB (.cons (ke [aw,aw,aw,aw,aw] (H).2) .nil)) (.cons (bB (.cons (ke [aw,aw,aw,aw,aw] (H).2) .nil)) .nil)
def Wy (n:Nat)(H:Hy cC n):=aiT.k TZp Tryz.f56 n (dr:=ND) (hT:=λm hm=>⟨.nil,Wx m ((H.d hm).s),(NF m ((H.d hm).s)),.nil,.nil⟩)
def Wz (n:Nat)(H:Hy cC n):=aiS.k TZp Tryz.f56 n (dr:=ND) (hT:=λm hm=>⟨.nil,Wx m ((H.d hm).s),(NF m ((H.d hm).s)),.nil,.nil⟩)
def WA (n:Nat)(H:Hy cC n):=aiR.k TZp Tryz.f56 n (dr:=ND) (hT:=λm hm=>⟨.nil,Wx m ((H.d hm).s),(NF m ((H.d hm).s)),.nil,.nil⟩)
def xr (n:Nat)(H:Hy cC n):aC TZp (Ul (n+1)):=aR Tryz.f56 (dr:=ND) (hT:=⟨.nil,Wx n (H.s),(NF n (H.s)),(.cc (WA n H) (.cc (Wz n H) (.cc (Wy n H) .nil))),.nil⟩)
def aiX (n:Nat)(H:cC n):ni TZp (aiV n):=.cons (bB (.cons (ke [aw,aw,aw,aw,aw,aw,aw,aw,aw] (H).1) .nil)) .nil
def vX (n:Nat)(H:Hy cC n):aC TZp (ZK (n+1)):=aR Tryz.f57 (dr:=aiW) (hT:=⟨.nil,Wx n (H.s),(aiX n (H.s)),.nil,.nil⟩)
def qY (n:Nat):cC n:=FF (Q:=cC) ⟨eE Tryz.f56,eE Tryz.f57⟩ (λk h=>⟨xr k h,vX k h⟩) n
def A7 (n:Nat):aC TZp (Ul n):=(qY n).1
def K3 (n:Nat):cV TZp (C3 n):=Wx n (qY n)
structure bK where
 kr:Addr->Addr->Int->Sl->Sl->Sl->Int->Int->M Sl
 kA:Addr->Addr->Int->Addr->Sl->Sl->Sl->Int->Int->M Sl
 pU:Int->Addr->Addr->Addr->M Int
def lE (G:bK)(n:Nat)(x:ξ)(a0:Int):M Int:=if nG vl x then sh (mr [aw,aw,aw] x) λ(c:Addr×Addr×Addr)=>G.pU a0 c.1 c.2.1 c.2.2 else AS
abbrev yj:=lE
def uE (G:bK)(n:Nat)(a0 a1:Addr)(a2:Int)(a3 a4 a5:Sl)(a6 a7:Int):M Sl:=if decide (a7<a6) then iX a5 a7 1 λx0=>eI x0 λx1=>sh (dL .raw a1) λ(x2:ξ)=>sh (yj G n x2 x1) λx3=>sh (app false a4 1 al 1 [vi x3]) λx4=>G.kr a0 a1 a2 a3 x4 a5 a6 (i64.wrap (a7+1)) else AI a4
def uF (G:bK)(n:Nat)(a0 a1:Addr)(a2:Int)(a3:Addr)(a4 a5 a6:Sl)(a7 a8:Int):M Sl:=if decide (a8<a7) then iX a6 a8 1 λx0=>eI x0 λx1=>sh (dL .raw a1) λ(x2:ξ)=>sh (lE G n x2 x1) λx3=>sh (app false a4 1 al 1 [vi x3]) λx4=>G.kA a0 a1 a2 a3 x4 a5 a6 a7 (i64.wrap (a8+1)) else AI a4
def yL (G:bK)(n:Nat)(a0:Int)(a1 a2 a3:Addr):M Int:=lS a1 0 λx0=>lS a2 0 λx1=>iX x1 a0 5 λx2=>nL x2 λx3=>nW av [vi 0,.string (ofBytes []),.bool false,aE,aE] λx4=>sN (ak x4) [vi x3.1,.string x3.2.1,.bool x3.2.2.1,aA x3.2.2.2.1,aA x3.2.2.2.2] λx5=>lS a1 0 λx6=>lI (ak x4) 0 λx7=>lT (ak x4) 1 λx8=>lB (ak x4) 2 λx9=>sh (app false x6 5 av 1 [vi x7,.string x8,.bool x9,aE,aE]) λdZ=>sN (a1.plus 0) [aA dZ] λx11=>lS (ak x4) 3 λx12=>sh (G.kA a1 a3 (↑x0.len:Int) (ak x4) ow ow x12 (↑x12.len:Int) 0) λx13=>lS (ak x4) 4 λfJ=>sh (G.kr a1 a3 (↑x0.len:Int) x13 ow fJ (↑fJ.len:Int) 0) λx15=>lS a1 0 λsK=>iX sK (↑x0.len:Int) 5 λx17=>lS a1 0 λuy=>sh (tX [some (a1.plus 0)] (rN (x17.plus 3) [aA x13])) λx19=>iX uy (↑x0.len:Int) 5 λx20=>sN (x20.plus 4) [aA x15] λx21=>AI (↑x0.len:Int)
def bK.at:Nat->bK|0=>⟨λ_ _ _ _ _ _ _ _=>AS,λ_ _ _ _ _ _ _ _ _=>AS,λ_ _ _ _=>AS⟩|n+1=>⟨uE (bK.at n) n,uF (bK.at n) n,yL (bK.at n) n⟩
def kr (n:Nat):=(bK.at n).kr
theorem Df (n:Nat):kr (n+1)=uE (bK.at n) n:=rfl
def kA (n:Nat):=(bK.at n).kA
theorem Dh (n:Nat):kA (n+1)=uF (bK.at n) n:=rfl
def pU (n:Nat):=(bK.at n).pU
theorem G8 (n:Nat):pU (n+1)=yL (bK.at n) n:=rfl
def Ih (n:Nat):=lE (bK.at n) n
def Ii (n:Nat):=yj (bK.at n) n
abbrev Um (n:Nat):dh:=eN 58 [au,aw,aw,aw] [au] (pU n)
abbrev aiY:=L1 (bL 351) [(1,aw),(3,aw),(6,au),(7,aw),(8,bj),(9,bj),(35,bj),(36,au),(37,au)] [(8,bj)] ([8,11]++rG 37 11) 0 kA
abbrev aiZ:=L1 (bL 703) [(1,aw),(3,aw),(6,au),(8,bj),(9,bj),(49,bj),(50,au),(51,au)] [(9,bj)] ([9,13]++rG 51 11) 2 kr
abbrev C4 (n:Nat):List dh:=Um n::C3 n
abbrev ai0 (n:Nat):List nH:=[dN 42 [au] [au] (Ih n), dN 56 [au] [au] (Ii n)]
def RV:=dR [(15,[0,2,3,5,6,7,1,8,9,4,5010,11,12,13])]
def lX (n:Nat):Prop:=aC TZp (Um n)
def adX (n:Nat)(H:lX n):cV TZp (C4 n):=.cons H (K3 n)
def RW (n:Nat)(H:lX n):ni TZp (ai0 n):=.cons (bB (.cons (ke [aw,aw,aw] (H)) .nil)) (.cons (bB (.cons (ke [aw,aw,aw] (H)) .nil)) .nil)
def WB (n:Nat)(H:Hy lX n):=aiZ.k TZp Tryz.f58 n (dr:=RV) (hT:=λm hm=>⟨.nil,adX m ((H.d hm).s),(RW m ((H.d hm).s)),.nil,.nil⟩)
def WC (n:Nat)(H:Hy lX n):=aiY.k TZp Tryz.f58 n (dr:=RV) (hT:=λm hm=>⟨.nil,adX m ((H.d hm).s),(RW m ((H.d hm).s)),.nil,.nil⟩)
def Di (n:Nat)(H:Hy lX n):aC TZp (Um (n+1)):=aR Tryz.f58 (dr:=RV) (hT:=⟨.nil,adX n (H.s),(RW n (H.s)),(.cc (WC n H) (.cc (WB n H) .nil)),.nil⟩)
def yk (n:Nat):lX n:=FF (Q:=lX) (eE Tryz.f58) Di n
def J3 (n:Nat):aC TZp (Um n):=(yk n)
def K4 (n:Nat):cV TZp (C4 n):=adX n (yk n)
def th (n:Nat)(a0:Sl×Int):M (θ):=nW aj [aA a0.1,vi a0.2] λx0=>sh (dP 8) λx1=>gL (ak x0) λx2=>lS (ak x0) 0 λx3=>sh (w9 (some (x1+4)) aF [aE] (↑x3.len:Int) (↑x3.len:Int)) λx4=>sh (iI (some (x1+6)) dA [aA x2.1,vi x2.2,aA x4]) λx5=>AI (some (ak x5))
abbrev ZL (n:Nat):dh:=eN 41 [.agg [.sl,.int .i64]] [wV] (th n)
def ai1:=dR [(1,[1,0]++rG 2 6)]
def P5 (n:Nat):aC TZp (ZL n):=aR Tryz.f41 (dr:=ai1) (hT:=.m1 (K4 n))
def lF (n:Nat)(a0:θ):M Int:=sh (nn a0) λx0=>sh (nn a0) λx1=>sh (dL (.int IntKind.u64) x0) λ(x2:Int)=>sh (dL (.int IntKind.u64) x1) λ(x3:Int)=>sh (pD (decide (0<=13))) λx4=>sh (nn a0) λx5=>sN x5 [.int IntKind.u64 (IntKind.u64.wrap (↑(BitVec.ofInt 64 x2^^^BitVec.ofInt 64 (IntKind.u64.wrap (x3*2^13))).toNat:Int))] λx6=>sh (nn a0) λx7=>sh (nn a0) λx8=>sh (dL (.int IntKind.u64) x7) λ(x9:Int)=>sh (dL (.int IntKind.u64) x8) λ(dZ:Int)=>sh (pD (decide (0<=7))) λx11=>sh (nn a0) λx12=>sN x12 [.int IntKind.u64 (IntKind.u64.wrap (↑(BitVec.ofInt 64 x9^^^BitVec.ofInt 64 (Int.fdiv dZ (2^7))).toNat:Int))] λx13=>sh (nn a0) λfJ=>sh (nn a0) λx15=>sh (dL (.int IntKind.u64) fJ) λ(sK:Int)=>sh (dL (.int IntKind.u64) x15) λ(x17:Int)=>sh (pD (decide (0<=17))) λuy=>sh (nn a0) λx19=>sN x19 [.int IntKind.u64 (IntKind.u64.wrap (↑(BitVec.ofInt 64 sK^^^BitVec.ofInt 64 (IntKind.u64.wrap (x17*2^17))).toNat:Int))] λx20=>sh (nn a0) λx21=>sh (dL (.int IntKind.u64) x21) λ(x22:Int)=>AI x22
abbrev ZM (n:Nat):dh:=eN 145 [wV] [.one (.int .u64)] (lF n)
def adY:=dR [(1,[0,1,3,4,2]++rG 5 5),(2,[0,1,3,4,2]++rG 5 5),(3,[0,1,3,4,2]++rG 5 5)]
def zl (n:Nat):aC TZp (ZM n):=aR Tryz.f145 (dr:=adY) (hT:=.m1 (K4 n))
def cD:uv (Sl->Int->Int->M Unit):=λG n a0 a1 a2=>if decide (a1<a2) then iX a0 a2 1 λx0=>iX a0 a1 1 λx1=>eI x0 λx2=>eI x1 λx3=>iX a0 a1 1 λx4=>sN x4 [vi x2] λx5=>iX a0 a2 1 λx6=>sN x6 [vi x3] λx7=>G a0 (i64.wrap (a1+1)) (i64.wrap (a2-1)) else AI ()
def cW:=lp cD
def fq (n:Nat)(a0:Sl)(a1 a2:Int)(a3:ξ):M Unit:=sh (cW n a0 a1 (i64.wrap (a2-1))) λx0=>AI ()
abbrev ZN (n:Nat):dh:=eN 110 [bj,au,au,sH] [] (fq n)
abbrev adZ:=L1 [0,1,1] [(0,bj),(8,au),(9,au)] [] ([8,9]++rG 13 21) 0 cW
def Un:=dR [(3,rG 0 7++[8,9,10,7]++rG 11 5)]
def RX (n:Nat):=adZ.k TZp Tryz.f110 n (dr:=Un) (hT:=λm _=>.m1 (K4 m))
def sI (n:Nat):aC TZp (ZN n):=aR Tryz.f110 (dr:=Un) (hT:=.m2 (K4 n) (.cc (RX n) .nil))
def tj:uv (Sl->Sl->Int->M (Unit⊕Int)):=λG n a0 a1 a2=>if decide (0<=a2) then iX a0 a2 1 λx0=>iX a1 a2 1 λx1=>sh (dL (.int IntKind.u8) x0) λ(x2:Int)=>sh (dL (.int IntKind.u8) x1) λ(x3:Int)=>if !decide (x2=x3) then iX a0 a2 1 λx4=>iX a1 a2 1 λx5=>sh (dL (.int IntKind.u8) x4) λ(x6:Int)=>sh (dL (.int IntKind.u8) x5) λ(x7:Int)=>if decide (x6<x7) then AI (Sum.inr (-1)) else AI (Sum.inr 1) else G a0 a1 (i64.wrap (a2-1)) else AI (Sum.inl ())
def oF:=lp tj
theorem BX (n:Nat):oF (n+1)=tj (oF n) n:=rfl
def tk (n:Nat)(a0 a1:Sl):M Int:=if !decide ((↑a0.len:Int)=(↑a1.len:Int)) then if decide ((↑a0.len:Int)<(↑a1.len:Int)) then AI (-1) else AI 1 else sh (oF n a0 a1 (i64.wrap ((↑a0.len:Int)-1))) (dW (λx0=>AI 0) (λx0=>AI x0))
abbrev ZO (n:Nat):dh:=eN 173 [bj,bj] [au] (tk n)
abbrev ad0:=L2 [0,1,0,1,1] [(0,bj),(1,bj),(5,au)] [] [(4,au)] ([4,5]++rG 19 22) 0 .ret oF
def Uo:=dR [(8,[0,1,2,4,5,6,3,7,8]),(9,[0,1,2,4,5,6,3,7,8])]
def RY (n:Nat):=ad0.k TZp Tryz.f173 n (dr:=Uo) (hT:=λm _=>.m1 (K4 m))
def Ij (n:Nat):aC TZp (ZO n):=aR Tryz.f173 (dr:=Uo) (hT:=.m2 (K4 n) (.cc (RY n) .nil))
def vp (n:Nat)(a0:Int):M Int:=if decide (a0<0) then AI (-1) else if decide (0<a0) then AI 1 else AI 0
abbrev ZP (n:Nat):dh:=eN 194 [au] [au] (vp n)
def G9 (n:Nat):aC TZp (ZP n):=aR Tryz.f194 (hT:=.m1 (K4 n))
def iO (n:Nat)(a0:Bool×Sl×Int)(a1:Int):M Int:=nW bw [.bool a0.1,aA a0.2.1,vi a0.2.2] λx0=>lS (ak x0) 1 λx1=>if decide (a1<(↑x1.len:Int)) then lS (ak x0) 1 λx2=>iX x2 a1 1 λx3=>sh (dL (.int IntKind.u8) x3) λ(x4:Int)=>AI x4 else AI 0
abbrev ZQ (n:Nat):dh:=eN 207 [.agg [.bool,.sl,.int .i64],au] [.one (.int .u8)] (iO n)
def mM (n:Nat):aC TZp (ZQ n):=aR Tryz.f207 (hT:=.m1 (K4 n))
def tn:uv (Sl->Sl->Int->Int->Sl->Int->Int->M Unit):=λG n a0 a1 a2 a3 a4 a5 a6=>if decide (a6<a5) then iX a4 a6 1 λx0=>eI x0 λx1=>iX a0 x1 1 λx2=>eI x2 λx3=>iX a0 x1 1 λx4=>sN x4 [vi (i64.wrap (x3+1))] λx5=>G a0 a1 a2 a3 a4 a5 (i64.wrap (a6+1)) else AI ()
def oG:=lp tn
theorem BZ (n:Nat):oG (n+1)=tn (oG n) n:=rfl
def tq:uv (Sl->Sl->Int->Int->M Unit):=λG n a0 a1 a2 a3=>if decide (a3<a2) then iX a1 a3 5 λx0=>nL x0 λx1=>nW av [vi 0,.string (ofBytes []),.bool false,aE,aE] λx2=>sN (ak x2) [vi x1.1,.string x1.2.1,.bool x1.2.2.1,aA x1.2.2.2.1,aA x1.2.2.2.2] λx3=>lS (ak x2) 4 λx4=>sh (oG n a0 a1 a2 a3 x4 (↑x4.len:Int) 0) λx5=>G a0 a1 a2 (i64.wrap (a3+1)) else AI ()
def oH:=lp tq
theorem B0 (n:Nat):oH (n+1)=tq (oH n) n:=rfl
def wH (n:Nat)(a0:Sl×Int):M Sl:=nW aj [aA a0.1,vi a0.2] λx0=>lS (ak x0) 0 λx1=>sh (w9 none al [vi 0] (↑x1.len:Int) (↑x1.len:Int)) λx2=>lI (ak x0) 1 λx3=>iX x2 x3 1 λx4=>eI x4 λx5=>iX x2 x3 1 λx6=>sN x6 [vi (i64.wrap (x5+1))] λx7=>lS (ak x0) 0 λx8=>sh (oH n x2 x8 (↑x8.len:Int) 0) λx9=>AI x2
abbrev agE (n:Nat):dh:=eN 23 [.agg [.sl,.int .i64]] [bj] (wH n)
abbrev ai2:=L1 (bL 87) [(3,bj),(20,bj),(21,au),(22,au)] [] ([5,7]++rG 22 19) 0 oH
abbrev ai3:=L1 (bL 22935) [(3,bj),(20,bj),(21,au),(22,au),(27,bj),(28,au),(29,au)] [] ([7]++rG 29 11) 2 oG
def WD (n:Nat):=ai3.k TZp Tryz.f23 n (hT:=λm _=>.m1 (K4 m))
def WE (n:Nat):=ai2.k TZp Tryz.f23 n (hT:=λm _=>.m2 (K4 m) (.cc (WD m) .nil))
def Ik (n:Nat):aC TZp (agE n):=aR Tryz.f23 (hT:=.m2 (K4 n) (.cc (WE n) .nil))
def nS (n:Nat)(a0:θ):M ζ:=sh (nn a0) λx0=>sh (nn a0) λx1=>lS x0 1 λx2=>sh (Jh x2.a x2.len) λx3=>lS x1 1 λx4=>sh (ah3 jA x3 (↑x4.len:Int)) λx5=>AI x5
abbrev agF (n:Nat):dh:=eN 65 [wV] [pF] (nS n)
def ai4:=dR [(1,[0,1,2,5,6,7,3,4,8,9,10,11])]
def xS (n:Nat):aC TZp (agF n):=aR Tryz.f65 (dr:=ai4) (hT:=.m1 (K4 n))
def AL (n:Nat)(a0:Int)(a1:Addr):M ζ:=eS a1 λx0=>iX x0 a0 1 λx1=>eT x1 λx2=>AI x2
abbrev agG (n:Nat):dh:=eN 47 [au,aw] [pF] (AL n)
def xt (n:Nat):aC TZp (agG n):=aR Tryz.f47 (hT:=.m1 (K4 n))
structure mN where
 oZ:Int->M ζ
def Il (G:mN)(n:Nat)(a0:Int):M ζ:=if decide (a0<10) then AI (OH (IntKind.i32.wrap (i64.wrap (48+a0)))) else sh (pD (decide (10≠0))) λx0=>sh (G.oZ (i64.wrap (a0.tdiv 10))) λx1=>sh (pD (decide (10≠0))) λx2=>sh (kc x1 (OH (IntKind.i32.wrap (i64.wrap (48+a0.tmod 10))))) λx3=>AI x3
def mN.at:Nat->mN|0=>⟨λ_=>AS⟩|n+1=>⟨Il (mN.at n) n⟩
def oZ (n:Nat):=(mN.at n).oZ
abbrev ZR (n:Nat):dh:=eN 49 [au] [pF] (oZ n)
abbrev C5 (n:Nat):List dh:=ZR n::C4 n
def rE (n:Nat):Prop:=aC TZp (ZR n)
def amD (n:Nat)(H:rE n):cV TZp (C5 n):=.cons H (K4 n)
def A8 (n:Nat)(H:Hy rE n):aC TZp (ZR (n+1)):=aR Tryz.f49 (hT:=.m1 (amD n (H.s)))
def Dj (n:Nat):rE n:=FF (Q:=rE) (eE Tryz.f49) A8 n
def K5 (n:Nat):cV TZp (C5 n):=amD n (Dj n)
def nT:uv (Sl->Sl->Int->M (Unit⊕Bool)):=λG n a0 a1 a2=>if decide (a2<(↑a0.len:Int)) then iX a0 a2 1 λx0=>iX a1 a2 1 λx1=>eI x0 λx2=>eI x1 λx3=>if !decide (x2=x3) then AI (Sum.inr false) else G a0 a1 (i64.wrap (a2+1)) else AI (Sum.inl ())
def iP:=lp nT
theorem xU (n:Nat):iP (n+1)=nT (iP n) n:=rfl
def ji (n:Nat)(a0 a1:Sl):M Bool:=if !decide ((↑a0.len:Int)=(↑a1.len:Int)) then AI false else sh (iP n a0 a1 0) (dW (λx0=>AI true) (λx0=>AI x0))
abbrev agH (n:Nat):dh:=eN 27 [bj,bj] [jc] (ji n)
abbrev ai5:=L2 [0,1,0,1,1] [(0,bj),(1,bj),(5,au)] [] [(4,jc)] ([4,5]++rG 11 15) 0 .ret iP
def ZS:=dR [(6,[0,1,2,4,5,6,3,7,8])]
def WG (n:Nat):=ai5.k TZp Tryz.f27 n (dr:=ZS) (hT:=λm _=>.m1 (K5 m))
def B3 (n:Nat):aC TZp (agH n):=aR Tryz.f27 (dr:=ZS) (hT:=.m2 (K5 n) (.cc (WG n) .nil))
abbrev ux:=Addr->Int->Int->Int->M ((Int×Int)⊕Bool)
def lY (G:ux)(n:Nat)(a0:Addr)(a1 a2 a3:Int)(a4:Addr):M ((Int×Int)⊕Bool):=lS a4 3 λx0=>lS a4 4 λx1=>lT a4 1 λx2=>G a0 (i64.wrap (a1+i64.wrap ((↑x0.len:Int)+(↑x1.len:Int)))) (i64.wrap (a2+(↑(ByteArray.size x2):Int))) (i64.wrap (a3+1))
def pf:uv (ux):=λG n a0 a1 a2 a3=>lS a0 0 λx0=>if decide (a3<(↑x0.len:Int)) then lS a0 0 λx1=>iX x1 a3 5 λx2=>nL x2 λx3=>nW av [vi 0,.string (ofBytes []),.bool false,aE,aE] λx4=>sN (ak x4) [vi x3.1,.string x3.2.1,.bool x3.2.2.1,aA x3.2.2.2.1,aA x3.2.2.2.2] λx5=>lT (ak x4) 1 λx6=>if decide (100<(↑(ByteArray.size x6):Int)) then AI (Sum.inr false) else lS (ak x4) 3 λx7=>if decide (80<(↑x7.len:Int)) then AI (Sum.inr false) else lS (ak x4) 4 λx8=>if decide (80<(↑x8.len:Int)) then AI (Sum.inr false) else lY G n a0 a1 a2 a3 (ak x4) else AI (Sum.inl (a1,a2))
def hY:=lp pf
theorem yM (n:Nat):hY (n+1)=pf (hY n) n:=rfl
def Aj (n:Nat):=lY (hY n) n
def mO (n:Nat)(a0:Sl×Int):M Bool:=nW aj [aA a0.1,vi a0.2] λx0=>lS (ak x0) 0 λx1=>if decide (40<(↑x1.len:Int)) then AI false else sh (hY n (ak x0) 0 0 0) (dW (λx2=>if decide (x2.1<=240) then AI (decide (x2.2<=300)) else AI false) (λx2=>AI x2))
abbrev aoj (n:Nat):dh:=eN 5 [.agg [.sl,.int .i64]] [jc] (mO n)
abbrev amE:=L2 (bL 87) [(1,aw),(3,au),(4,au),(5,au)] [(3,au),(4,au)] [(2,jc)] (rG 2 5++rG 11 42) 0 .ret hY
abbrev ZT (n:Nat):List (iB ((Int×Int)⊕Bool)):=[jN (bL 11415) [.code (bL 15511),.ar 1,.code (bL 919)] [(1,aw),(3,au),(4,au),(5,au),(6,aw)] (Aj n)]
def ZU (n:Nat):=amE.k TZp Tryz.f5 n (jt:=ZT) (hT:=λm _=>.m3 (K5 m) (.cc .nil))
def Dk (n:Nat):aC TZp (aoj n):=aR Tryz.f5 (hT:=.m2 (K5 n) (.cc (ZU n) .nil))
def uG (n:Nat)(x:ξ)(a0:Int):M Unit:=if nG pG x then sh (mr [aw,aw,aw] x) λ(c:Addr×Addr×Addr)=>jq n a0 c.1 c.2.1 c.2.2 else AS
def qZ (n:Nat)(a0:Sl×Int)(a1:Int)(a2:Sl):M Unit:=nW aj [aA a0.1,vi a0.2] λx0=>nW wW [aA a2] λx1=>nW uC [Value.nilFunc] λx2=>sN (ak x2) [.func (Fn.func pG) #[] #[.pointer (some (ak x1)),.pointer (some (ak x0)),.pointer (some (ak x2))]] λx3=>sh (dL .raw (ak x2)) λ(x4:ξ)=>sh (uG n x4 a1) λx5=>AI ()
abbrev agI (n:Nat):dh:=eN 16 [.agg [.sl,.int .i64],au,bj] [] (qZ n)
abbrev ai6 (n:Nat):List nH:=[dN 8 [au] [] (uG n)]
def ai7 (n:Nat):ni TZp (ai6 n):=.cons (bB (.cons (ke [aw,aw,aw] (Ev n)) .nil)) .nil
def Ha (n:Nat):aC TZp (agI n):=aR Tryz.f16 (hT:=⟨.nil,K5 n,(ai7 n),.nil,.nil⟩)
abbrev C6 (n:Nat):List dh:=agx n::agy n::agz n::agA n::agB n::agC n::ZC n::ZD n::ZE n::ZF n::ZG n::ZH n::agD n::ZL n::ZM n::ZN n::ZO n::ZP n::ZQ n::agE n::agF n::agG n::agH n::agI n::C5 n
def K6 (n:Nat):cV TZp (C6 n):=.cons (G5 n) (.cons (Ls n) (.cons (Ib n) (.cons (Ic n) (.cons (G6 n) (.cons (BS n) (.cons (De n) (.cons (A6 n) (.cons (Lu n) (.cons (yi n) (.cons (Lw n) (.cons (JZ n) (.cons (Ie n) (.cons (P5 n) (.cons (zl n) (.cons (sI n) (.cons (Ij n) (.cons (G9 n) (.cons (mM n) (.cons (Ik n) (.cons (xS n) (.cons (xt n) (.cons (B3 n) (.cons (Ha n) (K5 n))))))))))))))))))))))))
abbrev yl:=Addr->Addr->ζ->Int->Int->M (Unit⊕Bool)
def pV (G:yl)(n:Nat)(a0 a1:Addr)(a2:ζ)(a3 a4 a5:Int):M (Unit⊕Bool):=sh (lj a2 a3) λx0=>lS a1 1 λx1=>iX x1 (i64.wrap (i64.wrap ((↑a2.size:Int)-1)-a3)) 1 λx2=>sN x2 [.int IntKind.u8 (IntKind.u8.wrap ((↑x0.toNat:Int)-48))] λx3=>G a0 a1 a2 a4 (i64.wrap (a5+1))
def tu:uv (yl):=λG n a0 a1 a2 a3 a4=>if decide (a4<a3) then sh (lj a2 a4) λx0=>if decide ((↑x0.toNat:Int)<48) then sN a0 [.bool false,aE] λx1=>AI (Sum.inr false) else sh (lj a2 a4) λx1=>if decide (57<(↑x1.toNat:Int)) then sN a0 [.bool false,aE] λx2=>AI (Sum.inr false) else pV G n a0 a1 a2 a4 a3 a4 else AI (Sum.inl ())
def k7:=lp tu
theorem B4 (n:Nat):k7 (n+1)=tu (k7 n) n:=rfl
def EA (n:Nat):=pV (k7 n) n
def k8 (n:Nat)(a0 a1:Addr)(a2:ζ):M ((Bool×Sl)×Bool):=sh (w9 none jA [.int IntKind.u8 0] (↑a2.size:Int) (↑a2.size:Int)) λx0=>sN (a1.plus 1) [aA x0] λx1=>sh (k7 n a0 a1 a2 (↑a2.size:Int) 0) (dW (λx2=>lS a1 1 λx3=>sh (Ad n x3) λx4=>sN (a1.plus 1) [aA x4] λx5=>sh (cT [.bool,.sl] a1) λ(x6:Bool×Sl)=>sN a0 [.bool x6.1,aA x6.2] λx7=>sh (cT [.bool,.sl] a0) λ(x8:Bool×Sl)=>AI ((x8.1,x8.2),true)) (λx2=>sh (cT [.bool,.sl] a0) λ(x3:Bool×Sl)=>AI ((x3.1,x3.2),x2)))
def ju (n:Nat)(a0:ζ)(a1 a2:Addr)(a3:ζ):M ((Bool×Sl)×Bool):=if decide ((↑a3.size:Int)=0) then sN a1 [.bool false,aE] λx0=>sh (cT [.bool,.sl] a1) λ(x1:Bool×Sl)=>AI ((x1.1,x1.2),false) else if decide (400<(↑a3.size:Int)) then sN a1 [.bool false,aE] λx0=>sh (cT [.bool,.sl] a1) λ(x1:Bool×Sl)=>AI ((x1.1,x1.2),false) else sh (lj a3 0) λx0=>if decide ((↑x0.toNat:Int)=48) then if decide (1<(↑a0.size:Int)) then sN a1 [.bool false,aE] λx1=>sh (cT [.bool,.sl] a1) λ(x2:Bool×Sl)=>AI ((x2.1,x2.2),false) else k8 n a1 a2 a3 else k8 n a1 a2 a3
def qx (n:Nat)(a0:ζ):M ((Bool×Sl)×Bool):=nW aD [.bool false,aE] λx0=>nW aD [.bool false,aE] λx1=>sN (ak x1) [.bool false,aE] λx2=>if decide (1<(↑a0.size:Int)) then sh (lj a0 0) λx3=>if decide ((↑x3.toNat:Int)=45) then sN ((ak x1).plus 0) [.bool true] λx4=>sh (im a0 1 (↑a0.size:Int)) λx5=>ju n a0 (ak x0) (ak x1) x5 else ju n a0 (ak x0) (ak x1) a0 else ju n a0 (ak x0) (ak x1) a0
abbrev agJ (n:Nat):dh:=eN 66 [pF] [.agg [.bool,.sl],jc] (qx n)
abbrev ai8:=L2 (bL 703) [(2,aw),(4,aw),(5,pF),(44,au),(45,au)] [] [(3,jc)] ([3,6]++rG 45 27) 0 .ret k7
def ZV:=dR [(14,[0]++rG 2 9++[1,11,12])]
abbrev WH (n:Nat):List (iB (Unit⊕Bool)):=[jN (bL 117951) [.ar 1,.code (bL 15551)] [(2,aw),(4,aw),(5,pF),(6,au),(44,au),(45,au)] (EA n)]
abbrev ai9 (n:Nat):List (iB ((Bool×Sl)×Bool)):=[jN (bL 79) [.code (bL 111),.code [1,1,1,1,1]] [(0,pF),(2,aw),(4,aw),(5,pF)] (ju n), jN (bL 95) [.code (bL 127)] [(2,aw),(4,aw),(5,pF)] (k8 n)]
def WI (n:Nat):=ai8.k TZp Tryz.f66 n (dr:=ZV) (jt:=WH) (hT:=λm _=>.m3 (K6 m) (.cc .nil))
def Im (n:Nat):aC TZp (agJ n):=aR Tryz.f66 (dr:=ZV) (js:=ai9 n) (hT:=⟨.nil,K6 n,.nil,(.cc (WI n) .nil),(.cc (.cc .nil))⟩)
def qy (n:Nat)(a0:Bool×Sl×Int):M ζ:=nW bw [.bool a0.1,aA a0.2.1,vi a0.2.2] λx0=>lS (ak x0) 1 λx1=>if decide ((↑x1.len:Int)=0) then AI (ofBytes [48]) else sh (cT [.bool,.sl,li] (ak x0)) λ(x2:Bool×Sl×Int)=>sh (cT [.bool,.sl,li] (ak x0)) λ(x3:Bool×Sl×Int)=>sh (tX [some (ak x0)] (qw n (x2.1,x2.2.1,x2.2.2))) λx4=>sh (nN n (x3.1,x3.2.1,x3.2.2)) λx5=>sh (kc x4 x5) λx6=>AI x6
abbrev ZW (n:Nat):dh:=eN 122 [.agg [.bool,.sl,.int .i64]] [pF] (qy n)
def ad3:=dR [(3,[0,2,3001,3,4,5])]
def Dl (n:Nat):aC TZp (ZW n):=aR Tryz.f122 (dr:=ad3) (hT:=.m1 (K6 n))
def J4 (n:Nat):M (Nat):=sh (bC n 9221120237041090561) λx0=>AI x0
abbrev agK (n:Nat):dh:=eN 91 [] [.one (.f64)] (J4 n)
def P6 (n:Nat):aC TZp (agK n):=aR Tryz.f91 (hT:=.m1 (K6 n))
def vF (n:Nat)(a0:Int):M (Nat):=if decide (0<=a0) then sh (bC n 9218868437227405312) λx0=>AI x0 else sh (bC n 18442240474082181120) λx0=>AI x0
abbrev agL (n:Nat):dh:=eN 92 [au] [.one (.f64)] (vF n)
def P7 (n:Nat):aC TZp (agL n):=aR Tryz.f92 (hT:=.m1 (K6 n))
def pK (n:Nat)(a0 a1:ζ):M (ζ×ζ×Bool):=sh (jB n a0 a1) λx0=>if decide (0<=x0) then sh (im a0 0 x0) λx1=>sh (im a0 (i64.wrap (x0+(↑a1.size:Int))) (↑a0.size:Int)) λx2=>AI (x1,x2,true) else AI (a0,(ofBytes []),false)
abbrev ZX (n:Nat):dh:=eN 126 [pF,pF] [pF,pF,jc] (pK n)
def ad4:=dR [(3,rG 0 12)]
def B5 (n:Nat):aC TZp (ZX n):=aR Tryz.f126 (dr:=ad4) (hT:=.m1 (K6 n))
def pW (n:Nat)(a0 a1:Int):M Bool:=sh (fQ n a0) λx0=>sh (pD (decide (2≠0))) λx1=>if decide (a0.tmod 2=1) then if decide (x0<=53) then if decide (-1074<=a1) then if decide (a1<=1023) then AI (decide (i64.wrap (a1+x0)<=1024)) else AI false else AI false else AI false else AI false
abbrev agM (n:Nat):dh:=eN 95 [.one (.int .u64),au] [jc] (pW n)
def J5 (n:Nat):aC TZp (agM n):=aR Tryz.f95 (hT:=.m1 (K6 n))
def jZ (n a0 a1:Nat):M (Nat):=sh (bW n a0) λx0=>sh (bW n a1) λx1=>sh (bC n (IntKind.u64.wrap (↑(BitVec.ofInt 64 (IntKind.u64.wrap (↑(BitVec.ofInt 64 x0&&&~~~BitVec.ofInt 64 9223372036854775808).toNat:Int))|||BitVec.ofInt 64 (IntKind.u64.wrap (↑(BitVec.ofInt 64 x1&&&BitVec.ofInt 64 9223372036854775808).toNat:Int))).toNat:Int))) λx2=>AI x2
abbrev agN (n:Nat):dh:=eN 98 [.one (.f64),.one (.f64)] [.one (.f64)] (jZ n)
def Hb (n:Nat):aC TZp (agN n):=aR Tryz.f98 (hT:=.m1 (K6 n))
def rh (n a0:Nat):M (Nat):=sh (bW n a0) λx0=>sh (bC n (IntKind.u64.wrap (↑(BitVec.ofInt 64 x0&&&~~~BitVec.ofInt 64 9223372036854775808).toNat:Int))) λx1=>AI x1
abbrev ZY (n:Nat):dh:=eN 164 [.one (.f64)] [.one (.f64)] (rh n)
def P8 (n:Nat):aC TZp (ZY n):=aR Tryz.f164 (hT:=.m1 (K6 n))
def lG (n a0:Nat):M Bool:=sh (bW n a0) λx0=>AI (decide (i64.wrap x0<0))
abbrev ZZ (n:Nat):dh:=eN 130 [.one (.f64)] [jc] (lG n)
def Io (n:Nat):aC TZp (ZZ n):=aR Tryz.f130 (hT:=.m1 (K6 n))
def rW (n:Nat)(a0 a1:Int):M ζ:=sh (gm n a0 a1) λx0=>AI x0
abbrev Z0 (n:Nat):dh:=eN 133 [.one (.int .u64),au] [pF] (rW n)
def A9 (n:Nat):aC TZp (Z0 n):=aR Tryz.f133 (hT:=.m1 (K6 n))
def kB (n:Nat)(x:ξ)(a0:Int):M (Int×Bool):=if nG qs x then sh (mr [aw,aw] x) λ(c:Addr×Addr)=>pS n a0 c.1 c.2 else AS
abbrev wo:=Sl->Int->Int->Addr->Addr->Addr->Int->Int->M (Unit⊕Bool)
def eo (G:wo)(n:Nat)(a0:Sl)(a1 a2:Int)(a3 a4 a5:Addr)(a6 a7 a8 a9:Int):M (Unit⊕Bool):=sh (dL .raw a5) λ(x0:ξ)=>sh (kB n x0 a7) λx1=>if !x1.2 then AI (Sum.inr false) else iX a0 a6 1 λx2=>sN x2 [vi x1.1] λx3=>G a0 a1 a2 a3 a4 a5 a8 (i64.wrap (a9+1))
def jD:uv (wo):=λG n a0 a1 a2 a3 a4 a5 a6 a7=>if decide (a7<a6) then if decide (0<a7) then eI a3 λx0=>eT a4 λx1=>if decide ((↑(ByteArray.size x1):Int)<=x0) then AI (Sum.inr false) else eT a4 λx2=>eI a3 λx3=>sh (lj x2 x3) λx4=>if !decide ((↑x4.toNat:Int)=a2) then AI (Sum.inr false) else eI a3 λx5=>sN a3 [vi (i64.wrap (x5+1))] λx6=>if decide (a7=0) then eo G n a0 a1 a2 a3 a4 a5 a7 a1 a6 a7 else eo G n a0 a1 a2 a3 a4 a5 a7 2 a6 a7 else if decide (a7=0) then eo G n a0 a1 a2 a3 a4 a5 a7 a1 a6 a7 else eo G n a0 a1 a2 a3 a4 a5 a7 2 a6 a7 else AI (Sum.inl ())
def gS:=lp jD
def B6 (n:Nat):=eo (gS n) n
def iQ (n:Nat)(a0:Sl)(a1 a2:Int)(a3 a4 a5:Addr):M Bool:=sh (gS n a0 a1 a2 a3 a4 a5 (↑a0.len:Int) 0) (dW (λx0=>AI true) (λx0=>AI x0))
abbrev Z1 (n:Nat):dh:=eN 101 [bj,au,.one (.int .u8),aw,aw,aw] [jc] (iQ n)
abbrev ad5:=L2 [0,1,0,1] [(0,bj),(1,au),(2,.one (.int .u8)),(3,aw),(4,aw),(5,aw),(15,au),(16,au)] [] [(9,jc)] (rG 9 5++rG 16 34) 0 .ret gS
abbrev ad6 (n:Nat):List nH:=[dN 38 [au] [au,jc] (kB n)]
abbrev RZ (n:Nat):List (iB (Unit⊕Bool)):=[jN (bL 24165) [.code (bL 32357),.ar 1,.code (bL 485)] [(0,bj),(1,au),(2,.one (.int .u8)),(3,aw),(4,aw),(5,aw),(10,au),(11,au),(15,au),(16,au)] (B6 n)]
def Up (n:Nat):ni TZp (ad6 n):=.cons (bB (.cons (ke [aw,aw] (yi n)) .nil)) .nil
def R4 (n:Nat):=ad5.k TZp Tryz.f101 n (jt:=RZ) (hT:=λm _=>⟨.nil,K6 m,(Up m),.nil,(.cc .nil)⟩)
def pL (n:Nat):aC TZp (Z1 n):=aR Tryz.f101 (hT:=⟨.nil,K6 n,(Up n),(.cc (R4 n) .nil),.nil⟩)
def nU (n:Nat)(a0 a1:Int):M Int:=nW JX [vi 0,vi 0,vi 0,vi 0,vi 0,vi 0,vi 0,vi 0,vi 0,vi 0,vi 0,vi 0,vi 0] λx0=>sN (ak x0) [vi 0,vi 31,vi 28,vi 31,vi 30,vi 31,vi 30,vi 31,vi 31,vi 30,vi 31,vi 30,vi 31] λx1=>if decide (a1=2) then sh (Ae n a0) λx2=>if x2 then AI 29 else sh (pD (decide (0<=a1/\a1<(↑13:Int)))) λx3=>sh (dL li ((ak x0).plus (a1.toNat*1))) λ(x4:Int)=>AI x4 else sh (pD (decide (0<=a1/\a1<(↑13:Int)))) λx2=>sh (dL li ((ak x0).plus (a1.toNat*1))) λ(x3:Int)=>AI x3
abbrev Z2 (n:Nat):dh:=eN 135 [au,au] [au] (nU n)
def Ip (n:Nat):aC TZp (Z2 n):=aR Tryz.f135 (hT:=.m1 (K6 n))
def j5 (n:Nat)(a0 a1:Int):M ζ:=sh (strconv_Itoa n a0) λx0=>sh (strings_Repeat n (ofBytes [48]) (if 0<i64.wrap (a1-(↑(ByteArray.size x0):Int)) then i64.wrap (a1-(↑(ByteArray.size x0):Int)) else 0)) λx1=>sh (kc x1 x0) λx2=>AI x2
abbrev Z3 (n:Nat):dh:=eN 137 [au,au] [pF] (j5 n)
def J6 (n:Nat):aC TZp (Z3 n):=aR Tryz.f137 (hT:=.m1 (K6 n))
def uH:uv (Addr->μ->Int->Addr->Sl->Int->Int->Sl->Int->Int->Sl->Int->Int->M (Unit⊕Bool)):=λG n a0 a1 a2 a3 a4 a5 a6 a7 a8 a9 a10 a11 a12=>if decide (a12<a11) then iX a10 a12 1 λx0=>eI x0 λx1=>gL a0 λx2=>sh (jr n (x2.1,x2.2) a2 x1) λx3=>if x3 then AI (Sum.inr true) else G a0 a1 a2 a3 a4 a5 a6 a7 a8 a9 a10 a11 (i64.wrap (a12+1)) else AI (Sum.inl ())
def pX:=lp uH
theorem Dm (n:Nat):pX (n+1)=uH (pX n) n:=rfl
def uI:uv (Addr->μ->Sl->Int->Int->Sl->Int->Int->M (Unit⊕Bool)):=λG n a0 a1 a2 a3 a4 a5 a6 a7=>if decide (a7<a6) then iX a5 a7 1 λx0=>eI x0 λx1=>sh (dP 15) λx2=>lS a0 0 λx3=>iX x3 x1 5 λx4=>lI x4 0 λx5=>lS a0 0 λx6=>iX x6 x1 5 λx7=>lT x7 1 λx8=>sh (iI (some (x2+13)) eg [vi 0,.string (ofBytes [])]) λx9=>sN (ak x9) [vi x5,.string x8] λdZ=>sh (cT [li,.str] (ak x9)) λ(x11:Int×ζ)=>sh (vx eg (Ty.one .sl) ow a1 (Value.agg #[vi x11.1,.string x11.2])) λ(x12:Bool×Sl)=>sh (pX n a0 a1 x1 (ak x9) a2 a3 a4 a5 a6 a7 x12.2 (↑x12.2.len:Int) 0) (dW (λx13=>sh (cT [li,.str] (ak x9)) λ(fJ:Int×ζ)=>sh (zK eg (Ty.one .sl) ow a1 (Value.agg #[vi fJ.1,.string fJ.2])) λx15=>sh (app false x15.1 1 al 1 [vi x1]) λsK=>sh (zL a1 (↑x15.2:Int) (aA sK)) λx17=>G a0 a1 a2 a3 a4 a5 a6 (i64.wrap (a7+1))) (λx13=>AI (Sum.inr x13))) else AI (Sum.inl ())
def mP:=lp uI
theorem Dp (n:Nat):mP (n+1)=uI (mP n) n:=rfl
def uJ:uv (Addr->Sl->Int->Int->M (Unit⊕Bool)):=λG n a0 a1 a2 a3=>if decide (a3<a2) then iX a1 a3 5 λx0=>nL x0 λx1=>nW av [vi 0,.string (ofBytes []),.bool false,aE,aE] λx2=>sN (ak x2) [vi x1.1,.string x1.2.1,.bool x1.2.2.1,aA x1.2.2.2.1,aA x1.2.2.2.2] λx3=>sh (Bs eg) λx4=>lS (ak x2) 3 λx5=>sh (mP n a0 (some x4) a1 a2 a3 x5 (↑x5.len:Int) 0) (dW (λx6=>G a0 a1 a2 (i64.wrap (a3+1))) (λx6=>AI (Sum.inr x6))) else AI (Sum.inl ())
def mQ:=lp uJ
theorem Dq (n:Nat):mQ (n+1)=uJ (mQ n) n:=rfl
def ym (n:Nat)(a0:Sl×Int):M Bool:=nW aj [aA a0.1,vi a0.2] λx0=>lS (ak x0) 0 λx1=>sh (mQ n (ak x0) x1 (↑x1.len:Int) 0) (dW (λx2=>AI false) (λx2=>AI x2))
abbrev agO (n:Nat):dh:=eN 20 [.agg [.sl,.int .i64]] [jc] (ym n)
abbrev aja:=L2 [0,1,0,1] [(1,aw),(12,bj),(13,au),(14,au)] [] [(2,jc)] ([2,4,5,7,8,10]++rG 14 48) 0 .ret mQ
abbrev ajb:=L2 (bL 11877) [(1,aw),(5,tyM),(12,bj),(13,au),(14,au),(20,bj),(21,au),(22,au)] [] [(2,jc)] ([2,7,8,10]++rG 22 39) 2 .ret mP
abbrev ajc:=L2 (bL 11325029) [(1,aw),(5,tyM),(7,au),(8,aw),(12,bj),(13,au),(14,au),(20,bj),(21,au),(22,au),(41,bj),(42,au),(43,au)] [] [(2,jc)] ([2,10]++rG 43 9) 4 .ret pX
def NG:=dR [(8,[0,2,6,8,1,3,4,5,7]++rG 9 6)]
def WJ (n:Nat):=ajc.k TZp Tryz.f20 n (dr:=NG) (hT:=λm _=>.m1 (K6 m))
def WK (n:Nat):=ajb.k TZp Tryz.f20 n (dr:=NG) (hT:=λm _=>.m2 (K6 m) (.cc (WJ m) .nil))
def WL (n:Nat):=aja.k TZp Tryz.f20 n (dr:=NG) (hT:=λm _=>.m2 (K6 m) (.cc (WK m) .nil))
def J7 (n:Nat):aC TZp (agO n):=aR Tryz.f20 (dr:=NG) (hT:=.m2 (K6 n) (.cc (WL n) .nil))
def pY (n:Nat)(x:ξ)(a0:Int):M Unit:=if nG lD x then sh (mr [aw,aw,aw,aw,aw,aw,aw,aw,aw] x) λ(c:Addr×Addr×Addr×Addr×Addr×Addr×Addr×Addr×Addr)=>fY n a0 c.1 c.2.1 c.2.2.1 c.2.2.2.1 c.2.2.2.2.1 c.2.2.2.2.2.1 c.2.2.2.2.2.2.1 c.2.2.2.2.2.2.2.1 c.2.2.2.2.2.2.2.2 else AS
def pg:uv (Addr->Int->Addr->Addr->Addr->Int->Int->M Unit):=λG n a0 a1 a2 a3 a4 a5 a6=>if decide (a6<a5) then eS a4 λx0=>iX x0 a6 1 λx1=>sN x1 [vi (-1)] λx2=>G a0 a1 a2 a3 a4 a5 (i64.wrap (a6+1)) else AI ()
def jE:=lp pg
theorem yN (n:Nat):jE (n+1)=pg (jE n) n:=rfl
def qz (n:Nat)(a0:Sl×Int):M (Sl×Sl):=nW aj [aA a0.1,vi a0.2] λx0=>lS (ak x0) 0 λx1=>sh (dP 12) λx2=>sh (w9 (some (x2+1)) al [vi 0] (↑x1.len:Int) (↑x1.len:Int)) λx3=>sh (w9 (some (x2+3)) al [vi 0] (↑x1.len:Int) (↑x1.len:Int)) λx4=>sh (w9 (some (x2+5)) al [vi 0] (↑x1.len:Int) (↑x1.len:Int)) λx5=>sh (iI (some (x2+6)) aF [aE]) λx6=>sh (iI (some (x2+7)) aF [aE]) λx7=>sh (iI (some (x2+8)) aF [aE]) λx8=>sh (Jj [x2+3,x2+5] (ak x6) (tX [none,none] (rN (ak x6) [aA x3]))) λx9=>sh (Jj [x2+5] (ak x7) (tX [none] (rN (ak x7) [aA x4]))) λdZ=>sN (ak x8) [aA x5] λx11=>sh (dL .sl (ak x8)) λ(x12:Sl)=>sh (jE n (ak x0) (↑x1.len:Int) (ak x6) (ak x7) (ak x8) (↑x12.len:Int) 0) λx13=>nW aF [aE] λfJ=>nW aF [aE] λx15=>sh (w9 none Ep [.bool false] (↑x1.len:Int) (↑x1.len:Int)) λsK=>nW wW [aE] λx17=>sN (ak x17) [aA sK] λuy=>nW al [vi 0] λx19=>sN (ak x19) [vi 0] λx20=>nW uC [Value.nilFunc] λx21=>sN (ak x21) [.func (Fn.func lD) #[] #[.pointer (some (ak x19)),.pointer (some (ak x6)),.pointer (some (ak x7)),.pointer (some (ak x15)),.pointer (some (ak x17)),.pointer (some (ak x21)),.pointer (some (ak x0)),.pointer (some (ak fJ)),.pointer (some (ak x8))]] λx22=>sh (dL .raw (ak x21)) λ(x23:ξ)=>lI (ak x0) 1 λx24=>sh (pY n x23 x24) λx25=>sh (dL .sl (ak x8)) λ(x26:Sl)=>sh (dL .sl (ak fJ)) λ(x27:Sl)=>AI (x26,x27)
abbrev agP (n:Nat):dh:=eN 35 [.agg [.sl,.int .i64]] [bj,bj] (qz n)
abbrev ajd:=L1 (bL 87) [(1,aw),(4,au),(5,aw),(6,aw),(7,aw),(24,au),(25,au)] [] ([8]++rG 25 7) 0 jE
abbrev aje (n:Nat):List nH:=[dN 35 [au] [] (pY n)]
def Z4:=dR [(2,[0,2,4,1,3,5,6,7,8,6004009,6010,11]),(14,[0,2,1,3])]
def Z5 (n:Nat):ni TZp (aje n):=.cons (bB (.cons (ke [aw,aw,aw,aw,aw,aw,aw,aw,aw] (A7 n)) .nil)) .nil
def WM (n:Nat):=ajd.k TZp Tryz.f35 n (dr:=Z4) (hT:=λm _=>⟨.nil,K6 m,(Z5 m),.nil,.nil⟩)
def Dr (n:Nat):aC TZp (agP n):=aR Tryz.f35 (dr:=Z4) (hT:=⟨.nil,K6 n,(Z5 n),(.cc (WM n) .nil),.nil⟩)
def Ak (n:Nat)(x:ξ)(a0:Int):M Int:=if nG vl x then sh (mr [aw,aw,aw] x) λ(c:Addr×Addr×Addr)=>pU n a0 c.1 c.2.1 c.2.2 else AS
def wY (n:Nat)(a0:Sl×Int)(a1:Int):M (Sl×Int):=nW aj [aA a0.1,vi a0.2] λx0=>nW aj [aE,vi 0] λx1=>nW aj [aE,vi 0] λx2=>nW iK [Value.nilFunc] λx3=>sN (ak x3) [.func (Fn.func vl) #[] #[.pointer (some (ak x2)),.pointer (some (ak x0)),.pointer (some (ak x3))]] λx4=>sh (dL .raw (ak x3)) λ(x5:ξ)=>sh (Ak n x5 a1) λx6=>gL (ak x2) λx7=>sN (ak x1) [aA x7.1,vi x7.2] λx8=>gL (ak x1) λx9=>AI (x9.1,x9.2)
abbrev agQ (n:Nat):dh:=eN 37 [.agg [.sl,.int .i64],au] [.agg [.sl,.int .i64]] (wY n)
abbrev ajf (n:Nat):List nH:=[dN 8 [au] [au] (Ak n)]
def ajg (n:Nat):ni TZp (ajf n):=.cons (bB (.cons (ke [aw,aw,aw] (J3 n)) .nil)) .nil
def NH (n:Nat):aC TZp (agQ n):=aR Tryz.f37 (hT:=⟨.nil,K6 n,(ajg n),.nil,.nil⟩)
def rm (n:Nat)(a0:Int):M Int:=sh (fQ n a0) λx0=>AI x0
abbrev agR (n:Nat):dh:=eN 78 [.one (.int .u64)] [au] (rm n)
def Hc (n:Nat):aC TZp (agR n):=aR Tryz.f78 (hT:=.m1 (K6 n))
def nV (n:Nat)(x:ξ)(a0:Bool×Sl×Int)(a1:Int):M Int:=if nG jQ x then sh (mr [] x) λ(_:Unit)=>iO n a0 a1 else AS
def nX (n:Nat)(x:ξ)(a0:Bool×Sl×Int)(a1:Int):M Int:=if nG jQ x then sh (mr [] x) λ(_:Unit)=>iO n a0 a1 else AS
def mR:uv (Addr->Addr->ξ->Int->Int->M (Unit⊕Int)):=λG n a0 a1 a2 a3 a4=>if decide (a4<a3) then sh (cT [.bool,.sl,li] a0) λ(x0:Bool×Sl×Int)=>sh (cT [.bool,.sl,li] a1) λ(x1:Bool×Sl×Int)=>sh (tX [some a1] (nV n a2 (x0.1,x0.2.1,x0.2.2) a4)) λx2=>sh (nX n a2 (x1.1,x1.2.1,x1.2.2) a4) λx3=>if !decide (i64.wrap (i64.wrap x2-i64.wrap x3)=0) then AI (Sum.inr (i64.wrap (i64.wrap x2-i64.wrap x3))) else G a0 a1 a2 a3 (i64.wrap (a4+1)) else AI (Sum.inl ())
def iE:=lp mR
theorem xu (n:Nat):iE (n+1)=mR (iE n) n:=rfl
def ph (n:Nat)(a0 a1:Addr):M Int:=lS a0 1 λx0=>lI a0 2 λx1=>lS a1 1 λx2=>lI a1 2 λx3=>if !decide (i64.wrap (i64.wrap (i64.wrap ((↑x0.len:Int)+x1)-(↑x2.len:Int))-x3)=0) then AI (i64.wrap (i64.wrap (i64.wrap ((↑x0.len:Int)+x1)-(↑x2.len:Int))-x3)) else lS a0 1 λx4=>lS a1 1 λx5=>sh (iE n a0 a1 (Value.func (Fn.func jQ) #[] #[]) (if (↑x4.len:Int)<(↑x5.len:Int) then (↑x5.len:Int) else (↑x4.len:Int)) 0) (dW (λx6=>AI 0) (λx6=>AI x6))
def nY (n:Nat)(a0 a1:Bool×Sl×Int):M Int:=nW bw [.bool a0.1,aA a0.2.1,vi a0.2.2] λx0=>nW bw [.bool a1.1,aA a1.2.1,vi a1.2.2] λx1=>lS (ak x0) 1 λx2=>if decide ((↑x2.len:Int)=0) then lS (ak x0) 1 λx3=>lS (ak x1) 1 λx4=>AI (i64.wrap ((↑x3.len:Int)-(↑x4.len:Int))) else lS (ak x1) 1 λx3=>if decide ((↑x3.len:Int)=0) then lS (ak x0) 1 λx4=>lS (ak x1) 1 λx5=>AI (i64.wrap ((↑x4.len:Int)-(↑x5.len:Int))) else ph n (ak x0) (ak x1)
abbrev Z6 (n:Nat):dh:=eN 195 [.agg [.bool,.sl,.int .i64],.agg [.bool,.sl,.int .i64]] [au] (nY n)
abbrev ad7:=L2 (bL 175) [(2,aw),(3,aw),(6,sH),(48,au),(49,au)] [] [(4,au)] ([4,7,8]++rG 49 18) 0 .ret iE
abbrev ad8 (n:Nat):List nH:=[dN 52 [.agg [.bool,.sl,.int .i64],au] [.one (.int .u8)] (nV n), dN 57 [.agg [.bool,.sl,.int .i64],au] [.one (.int .u8)] (nX n)]
def Ur:=dR [(10,[0,2,5,7,1,6,7003,4,8,9,10,11])]
abbrev ad9 (n:Nat):List (iB Int):=[jN [0,0,1,1] [.code [1,0,1,1],.code [1,1,1]] [(2,aw),(3,aw)] (ph n)]
def Us (n:Nat):ni TZp (ad8 n):=.cons (bB (.cons (ke [] (mM n)) .nil)) (.cons (bB (.cons (ke [] (mM n)) .nil)) .nil)
def R5 (n:Nat):=ad7.k TZp Tryz.f195 n (dr:=Ur) (hT:=λm _=>⟨.nil,K6 m,(Us m),.nil,.nil⟩)
def Ba (n:Nat):aC TZp (Z6 n):=aR Tryz.f195 (dr:=Ur) (js:=ad9 n) (hT:=⟨.nil,K6 n,(Us n),(.cc (R5 n) .nil),(.cc .nil)⟩)
def mS (n:Nat)(a0 a1:ζ):M Int:=sh (eh n a0 a1) λx0=>AI x0
abbrev Z7 (n:Nat):dh:=eN 175 [pF,pF] [au] (mS n)
def xw (n:Nat):aC TZp (Z7 n):=aR Tryz.f175 (hT:=.m1 (K6 n))
def kT (n:Nat)(a0:θ):M Unit:=sh (nn a0) λx0=>sh (dL .ptr (x0.plus 0)) λ(x1:θ)=>if Option.isNone x1 then sh (nn a0) λx2=>sh (inB x2) λx3=>sh (xl n (some x3)) λx4=>sh (nn x4) λx5=>sh (atB s6 2 x5) λx6=>sh (nn a0) λx7=>sN (x7.plus 0) [.pointer (some x6)] λx8=>AI () else sh (nn a0) λx2=>sh (dL .ptr (x2.plus 0)) λ(x3:θ)=>sh (eqP x3 a0) λx4=>if !x4 then AS else AI ()
abbrev Z8 (n:Nat):dh:=eN 117 [wV] [] (kT n)
def vY (n:Nat):aC TZp (Z8 n):=aR Tryz.f117 (hT:=.m1 (K6 n))
def B7:uv (Int->Addr->Addr->Sl->Sl->Int->Int->M Sl):=λG n a0 a1 a2 a3 a4 a5 a6=>if decide (a6<a5) then iX a4 a6 1 λx0=>eI x0 λx1=>sh (app false a3 1 jA 1 [.int IntKind.u8 32]) λx2=>eS a1 λx3=>lS a2 0 λx4=>iX x4 a0 5 λx5=>lS x5 4 λx6=>iX x6 x1 1 λx7=>eI x7 λx8=>iX x3 x8 1 λx9=>eI x9 λdZ=>sh (oZ n dZ) λx11=>sh (app true x2 1 jA (ByteArray.size x11) (cB x11)) λx12=>G a0 a1 a2 x12 a4 a5 (i64.wrap (a6+1)) else AI a3
def xx:=lp B7
def AM (n:Nat)(a0:Int)(a1 a2 a3:Addr):M ζ:=eS a1 λx0=>iX x0 a0 1 λx1=>eI x1 λx2=>sh (oZ n x2) λx3=>sh (Fi jA x3) λx4=>eS a2 λx5=>iX x5 a0 1 λx6=>eS x6 λx7=>sh (xx n a0 a1 a3 x4 x7 (↑x7.len:Int) 0) λx8=>sh (strOf x8) λx9=>AI x9
abbrev agS (n:Nat):dh:=eN 48 [au,aw,aw,aw] [pF] (AM n)
abbrev ajh:=L1 [0,1,0,1,1] [(0,au),(1,aw),(3,aw),(6,bj),(18,bj),(19,au),(20,au)] [(6,bj)] ([6,8]++rG 20 23) 0 xx
def Z9:=dR [(6,[0,2,4,8,1,3,5,6,7]++rG 9 7)]
def WN (n:Nat):=ajh.k TZp Tryz.f48 n (dr:=Z9) (hT:=λm _=>.m1 (K6 m))
def xy (n:Nat):aC TZp (agS n):=aR Tryz.f48 (dr:=Z9) (hT:=.m2 (K6 n) (.cc (WN n) .nil))
def yo (n:Nat)(a0 a1:Sl):M Bool:=sh (ji n a0 a1) λx0=>AI x0
abbrev agT (n:Nat):dh:=eN 14 [bj,bj] [jc] (yo n)
def B8 (n:Nat):aC TZp (agT n):=aR Tryz.f14 (hT:=.m1 (K6 n))
def pZ:uv (Addr->Addr->Int->M (Unit⊕Bool)):=λG n a0 a1 a2=>lS a0 0 λx0=>if decide (a2<(↑x0.len:Int)) then sh (dP 14) λx1=>lS a0 0 λx2=>iX x2 a2 5 λx3=>nL x3 λx4=>lS a1 0 λx5=>iX x5 a2 5 λx6=>nL x6 λx7=>sh (iI (some (x1+10)) av [vi 0,.string (ofBytes []),.bool false,aE,aE]) λx8=>sh (iI (some (x1+11)) av [vi 0,.string (ofBytes []),.bool false,aE,aE]) λx9=>sh (tX [some (a1.plus 0),some x6] (rN (ak x8) [vi x4.1,.string x4.2.1,.bool x4.2.2.1,aA x4.2.2.2.1,aA x4.2.2.2.2])) λdZ=>sN (ak x9) [vi x7.1,.string x7.2.1,.bool x7.2.2.1,aA x7.2.2.2.1,aA x7.2.2.2.2] λx11=>lI (ak x8) 0 λx12=>lI (ak x9) 0 λx13=>if !decide (x12=x13) then AI (Sum.inr false) else lT (ak x8) 1 λfJ=>lT (ak x9) 1 λx15=>if !qk fJ x15 then AI (Sum.inr false) else lB (ak x8) 2 λsK=>lB (ak x9) 2 λx17=>if !sK==x17 then AI (Sum.inr false) else lS (ak x8) 3 λuy=>lS (ak x9) 3 λx19=>sh (ji n uy x19) λx20=>if !x20 then AI (Sum.inr false) else lS (ak x8) 4 λx21=>lS (ak x9) 4 λx22=>sh (ji n x21 x22) λx23=>if !x23 then AI (Sum.inr false) else G a0 a1 (i64.wrap (a2+1)) else AI (Sum.inl ())
def kC:=lp pZ
theorem zm (n:Nat):kC (n+1)=pZ (kC n) n:=rfl
def oI (n:Nat)(a0 a1:Sl×Int):M Bool:=nW aj [aA a0.1,vi a0.2] λx0=>nW aj [aA a1.1,vi a1.2] λx1=>lI (ak x0) 1 λx2=>lI (ak x1) 1 λx3=>if !decide (x2=x3) then AI false else lS (ak x0) 0 λx4=>lS (ak x1) 0 λx5=>if !decide ((↑x4.len:Int)=(↑x5.len:Int)) then AI false else sh (kC n (ak x0) (ak x1) 0) (dW (λx6=>AI true) (λx6=>AI x6))
abbrev amF (n:Nat):dh:=eN 11 [.agg [.sl,.int .i64],.agg [.sl,.int .i64]] [jc] (oI n)
abbrev aji:=L2 [0,1,0,1,1] [(2,aw),(3,aw),(5,au)] [] [(4,jc)] ([4,5,6,7]++rG 22 52) 0 .ret kC
def aaa:=dR [(6,[0,2,5,7,1,3,4,6,8,9,10,11,10007012,13])]
def WO (n:Nat):=aji.k TZp Tryz.f11 n (dr:=aaa) (hT:=λm _=>.m1 (K6 m))
def EB (n:Nat):aC TZp (amF n):=aR Tryz.f11 (dr:=aaa) (hT:=.m2 (K6 n) (.cc (WO n) .nil))
abbrev C7 (n:Nat):List dh:=agJ n::ZW n::agK n::agL n::ZX n::agM n::agN n::ZY n::ZZ n::Z0 n::Z1 n::Z2 n::Z3 n::agO n::agP n::agQ n::agR n::Z6 n::Z7 n::Z8 n::agS n::agT n::C6 n
def K7 (n:Nat):cV TZp (C7 n):=.cons (Im n) (.cons (Dl n) (.cons (P6 n) (.cons (P7 n) (.cons (B5 n) (.cons (J5 n) (.cons (Hb n) (.cons (P8 n) (.cons (Io n) (.cons (A9 n) (.cons (pL n) (.cons (Ip n) (.cons (J6 n) (.cons (J7 n) (.cons (Dr n) (.cons (NH n) (.cons (Hc n) (.cons (Ba n) (.cons (xw n) (.cons (vY n) (.cons (xy n) (.cons (B8 n) (K6 n))))))))))))))))))))))
def rn (n:Nat)(a0:ζ):M Bool:=sh (qx n a0) λx0=>nW aD [.bool false,aE] λx1=>sN (ak x1) [.bool x0.1.1,aA x0.1.2] λx2=>AI x0.2
abbrev agU (n:Nat):dh:=eN 50 [pF] [jc] (rn n)
def Hd (n:Nat):aC TZp (agU n):=aR Tryz.f50 (hT:=.m1 (K7 n))
def qA (n:Nat)(a0:Bool×Sl×Int):M ζ:=nW bw [.bool a0.1,aA a0.2.1,vi a0.2.2] λx0=>sh (cT [.bool,.sl,li] (ak x0)) λ(x1:Bool×Sl×Int)=>lI (ak x0) 2 λx2=>sh (tX [some ((ak x0).plus 2)] (qy n (x1.1,x1.2.1,x1.2.2))) λx3=>sh (kc x3 (ofBytes [101])) λx4=>sh (strconv_Itoa n x2) λx5=>sh (kc x4 x5) λx6=>AI x6
abbrev agV (n:Nat):dh:=eN 89 [.agg [.bool,.sl,.int .i64]] [pF] (qA n)
def ajj:=dR [(1,[3,0,4,5001,2,5,6,7])]
def Ds (n:Nat):aC TZp (agV n):=aR Tryz.f89 (dr:=ajj) (hT:=.m1 (K7 n))
def strings_Cut (n:Nat)(a0 a1:ζ):M (ζ×ζ×Bool):=sh (pK n a0 a1) λx0=>AI (x0.1,x0.2.1,x0.2.2)
abbrev agW (n:Nat):dh:=eN 93 [pF,pF] [pF,pF,jc] (strings_Cut n)
def J8 (n:Nat):aC TZp (agW n):=aR Tryz.f93 (hT:=.m1 (K7 n))
def nZ (n a0:Nat)(a1:Int):M Bool:=if decide (a1=0) then sh (rh n a0) λx0=>AI (Q9 x0 9218868437227405311) else if decide (a1<0) then AI (Q9 (ah2 a0) 9218868437227405311) else AI (Q9 a0 9218868437227405311)
abbrev aab (n:Nat):dh:=eN 131 [.one (.f64),au] [jc] (nZ n)
def Lz (n:Nat):aC TZp (aab n):=aR Tryz.f131 (hT:=.m1 (K7 n))
def xz (n a0:Nat):M (Nat×Int):=sh (rh n a0) λx0=>if Yw x0 4503599627370496 then sh (OE a0 4841369599423283200) λx1=>AI (x1,-52) else AI (a0,0)
abbrev aac (n:Nat):dh:=eN 163 [.one (.f64)] [.one (.f64),au] (xz n)
def FQ (n:Nat):aC TZp (aac n):=aR Tryz.f163 (hT:=.m1 (K7 n))
def rF (n:Nat)(a0 a1:Int):M (Int×Int):=sh (db n a0) λx0=>sh (pD (decide (0<=x0))) λx1=>AI (a0.fdiv (2^min (Int.toNat x0) 64),i64.wrap (i64.wrap (a1-1075)+x0))
def n7 (n a0:Nat):M (Int×Int):=sh (rh n a0) λx0=>sh (bW n x0) λx1=>sh (pD (decide (0<=52))) λx2=>if decide (i64.wrap (Int.fdiv x1 (2^52))=0) then rF n (IntKind.u64.wrap (↑(BitVec.ofInt 64 x1&&&BitVec.ofInt 64 4503599627370495).toNat:Int)) 1 else rF n (IntKind.u64.wrap (↑(BitVec.ofInt 64 (IntKind.u64.wrap (↑(BitVec.ofInt 64 x1&&&BitVec.ofInt 64 4503599627370495).toNat:Int))|||BitVec.ofInt 64 4503599627370496).toNat:Int)) (i64.wrap (Int.fdiv x1 (2^52)))
abbrev aad (n:Nat):dh:=eN 132 [.one (.f64)] [.one (.int .u64),au] (n7 n)
abbrev aea (n:Nat):List (iB (Int×Int)):=[jN [0,1,1,1,1] [.code [1,1,1,1,1]] [(5,.one (.int .u64)),(6,au)] (rF n)]
def Iq (n:Nat):aC TZp (aad n):=aR Tryz.f132 (js:=aea n) (hT:=.m3 (K7 n) (.cc .nil))
def uK (n:Nat)(x:ξ)(a0:Sl)(a1 a2:Int):M Bool:=if nG dQ x then sh (mr [aw,aw,aw] x) λ(c:Addr×Addr×Addr)=>iQ n a0 a1 a2 c.1 c.2.1 c.2.2 else AS
def uL (n:Nat)(x:ξ)(a0:Sl)(a1 a2:Int):M Bool:=if nG dQ x then sh (mr [aw,aw,aw] x) λ(c:Addr×Addr×Addr)=>iQ n a0 a1 a2 c.1 c.2.1 c.2.2 else AS
def tA (n:Nat)(x:ξ)(a0:Sl)(a1 a2:Int):M Bool:=if nG dQ x then sh (mr [aw,aw,aw] x) λ(c:Addr×Addr×Addr)=>iQ n a0 a1 a2 c.1 c.2.1 c.2.2 else AS
def lH:uv (Addr->Addr->Addr->Addr->ξ->Int->M Unit):=λG n a0 a1 a2 a3 a4 a5=>if decide (a5<9) then lI a2 9 λx0=>sN (a2.plus 9) [vi (i64.wrap (x0*10))] λx1=>G a0 a1 a2 a3 a4 (i64.wrap (a5+1)) else AI ()
def oJ:=lp lH
abbrev yp:=Addr->Addr->Addr->Addr->ξ->Int->M Int
def p7 (G:yp)(n:Nat)(a0 a1 a2 a3:Addr)(a4:ξ)(a5:Int):M Int:=lI a2 9 λx0=>eT a0 λx1=>eI a3 λx2=>sh (lj x1 x2) λx3=>sN (a2.plus 9) [vi (i64.wrap (i64.wrap (10*x0)+i64.wrap (IntKind.u8.wrap ((↑x3.toNat:Int)-48))))] λx4=>eI a3 λx5=>sN a3 [vi (i64.wrap (x5+1))] λx6=>G a0 a1 a2 a3 a4 (i64.wrap (a5+1))
def lJ:uv (yp):=λG n a0 a1 a2 a3 a4 a5=>if decide (a5<9) then eI a3 λx0=>eT a0 λx1=>if decide (x0<(↑(ByteArray.size x1):Int)) then eT a0 λx2=>eI a3 λx3=>sh (lj x2 x3) λx4=>if decide (48<=(↑x4.toNat:Int)) then eT a0 λx5=>eI a3 λx6=>sh (lj x5 x6) λx7=>if decide ((↑x7.toNat:Int)<=57) then p7 G n a0 a1 a2 a3 a4 a5 else AI a5 else AI a5 else AI a5 else AI a5
def k9:=lp lJ
def EC (n:Nat):=p7 (k9 n) n
def rH (n:Nat)(a0 a1 a2 a3:Addr)(a4:ξ):M ((J11)×Bool):=eT a0 λx0=>eI a3 λx1=>sh (lj x0 x1) λx2=>sN (a2.plus 10) [.int IntKind.u8 (↑x2.toNat:Int)] λx3=>eI a3 λx4=>sN a3 [vi (i64.wrap (x4+1))] λx5=>sh (dL (.int IntKind.u8) (a2.plus 10)) λ(x6:Int)=>if decide (x6=90) then sh (cT [li,li,li,li,li,li,li,li,li,li,.int IntKind.u8] a2) λ(x7:J11)=>eI a3 λx8=>eT a0 λx9=>sh (tX [some a3,some a0] (rN a1 [vi x7.1,vi x7.2.1,vi x7.2.2.1,vi x7.2.2.2.1,vi x7.2.2.2.2.1,vi x7.2.2.2.2.2.1,vi x7.2.2.2.2.2.2.1,vi x7.2.2.2.2.2.2.2.1,vi x7.2.2.2.2.2.2.2.2.1,vi x7.2.2.2.2.2.2.2.2.2.1,.int IntKind.u8 x7.2.2.2.2.2.2.2.2.2.2])) λdZ=>sh (cT [li,li,li,li,li,li,li,li,li,li,.int IntKind.u8] a1) λ(x11:J11)=>AI ((x11.1,x11.2.1,x11.2.2.1,x11.2.2.2.1,x11.2.2.2.2.1,x11.2.2.2.2.2.1,x11.2.2.2.2.2.2.1,x11.2.2.2.2.2.2.2.1,x11.2.2.2.2.2.2.2.2.1,x11.2.2.2.2.2.2.2.2.2.1,x11.2.2.2.2.2.2.2.2.2.2),decide (x8=(↑(ByteArray.size x9):Int))) else sh (dL (.int IntKind.u8) (a2.plus 10)) λ(x7:Int)=>if !decide (x7=43) then sh (dL (.int IntKind.u8) (a2.plus 10)) λ(x8:Int)=>if !decide (x8=45) then sh (cT [li,li,li,li,li,li,li,li,li,li,.int IntKind.u8] a2) λ(x9:J11)=>sN a1 [vi x9.1,vi x9.2.1,vi x9.2.2.1,vi x9.2.2.2.1,vi x9.2.2.2.2.1,vi x9.2.2.2.2.2.1,vi x9.2.2.2.2.2.2.1,vi x9.2.2.2.2.2.2.2.1,vi x9.2.2.2.2.2.2.2.2.1,vi x9.2.2.2.2.2.2.2.2.2.1,.int IntKind.u8 x9.2.2.2.2.2.2.2.2.2.2] λdZ=>sh (cT [li,li,li,li,li,li,li,li,li,li,.int IntKind.u8] a1) λ(x11:J11)=>AI ((x11.1,x11.2.1,x11.2.2.1,x11.2.2.2.1,x11.2.2.2.2.1,x11.2.2.2.2.2.1,x11.2.2.2.2.2.2.1,x11.2.2.2.2.2.2.2.1,x11.2.2.2.2.2.2.2.2.1,x11.2.2.2.2.2.2.2.2.2.1,x11.2.2.2.2.2.2.2.2.2.2),false) else sh (o7 (a2.plus 1) 8 6 8 1) λx9=>sh (tA n a4 x9 2 58) λdZ=>if !dZ then sh (cT [li,li,li,li,li,li,li,li,li,li,.int IntKind.u8] a2) λ(x11:J11)=>sN a1 [vi x11.1,vi x11.2.1,vi x11.2.2.1,vi x11.2.2.2.1,vi x11.2.2.2.2.1,vi x11.2.2.2.2.2.1,vi x11.2.2.2.2.2.2.1,vi x11.2.2.2.2.2.2.2.1,vi x11.2.2.2.2.2.2.2.2.1,vi x11.2.2.2.2.2.2.2.2.2.1,.int IntKind.u8 x11.2.2.2.2.2.2.2.2.2.2] λx12=>sh (cT [li,li,li,li,li,li,li,li,li,li,.int IntKind.u8] a1) λ(x13:J11)=>AI ((x13.1,x13.2.1,x13.2.2.1,x13.2.2.2.1,x13.2.2.2.2.1,x13.2.2.2.2.2.1,x13.2.2.2.2.2.2.1,x13.2.2.2.2.2.2.2.1,x13.2.2.2.2.2.2.2.2.1,x13.2.2.2.2.2.2.2.2.2.1,x13.2.2.2.2.2.2.2.2.2.2),false) else sh (cT [li,li,li,li,li,li,li,li,li,li,.int IntKind.u8] a2) λ(x11:J11)=>eI a3 λx12=>eT a0 λx13=>sh (tX [some a3,some a0] (rN a1 [vi x11.1,vi x11.2.1,vi x11.2.2.1,vi x11.2.2.2.1,vi x11.2.2.2.2.1,vi x11.2.2.2.2.2.1,vi x11.2.2.2.2.2.2.1,vi x11.2.2.2.2.2.2.2.1,vi x11.2.2.2.2.2.2.2.2.1,vi x11.2.2.2.2.2.2.2.2.2.1,.int IntKind.u8 x11.2.2.2.2.2.2.2.2.2.2])) λfJ=>sh (cT [li,li,li,li,li,li,li,li,li,li,.int IntKind.u8] a1) λ(x15:J11)=>AI ((x15.1,x15.2.1,x15.2.2.1,x15.2.2.2.1,x15.2.2.2.2.1,x15.2.2.2.2.2.1,x15.2.2.2.2.2.2.1,x15.2.2.2.2.2.2.2.1,x15.2.2.2.2.2.2.2.2.1,x15.2.2.2.2.2.2.2.2.2.1,x15.2.2.2.2.2.2.2.2.2.2),decide (x12=(↑(ByteArray.size x13):Int))) else sh (o7 (a2.plus 1) 8 6 8 1) λx8=>sh (tA n a4 x8 2 58) λx9=>if !x9 then sh (cT [li,li,li,li,li,li,li,li,li,li,.int IntKind.u8] a2) λ(dZ:J11)=>sN a1 [vi dZ.1,vi dZ.2.1,vi dZ.2.2.1,vi dZ.2.2.2.1,vi dZ.2.2.2.2.1,vi dZ.2.2.2.2.2.1,vi dZ.2.2.2.2.2.2.1,vi dZ.2.2.2.2.2.2.2.1,vi dZ.2.2.2.2.2.2.2.2.1,vi dZ.2.2.2.2.2.2.2.2.2.1,.int IntKind.u8 dZ.2.2.2.2.2.2.2.2.2.2] λx11=>sh (cT [li,li,li,li,li,li,li,li,li,li,.int IntKind.u8] a1) λ(x12:J11)=>AI ((x12.1,x12.2.1,x12.2.2.1,x12.2.2.2.1,x12.2.2.2.2.1,x12.2.2.2.2.2.1,x12.2.2.2.2.2.2.1,x12.2.2.2.2.2.2.2.1,x12.2.2.2.2.2.2.2.2.1,x12.2.2.2.2.2.2.2.2.2.1,x12.2.2.2.2.2.2.2.2.2.2),false) else sh (cT [li,li,li,li,li,li,li,li,li,li,.int IntKind.u8] a2) λ(dZ:J11)=>eI a3 λx11=>eT a0 λx12=>sh (tX [some a3,some a0] (rN a1 [vi dZ.1,vi dZ.2.1,vi dZ.2.2.1,vi dZ.2.2.2.1,vi dZ.2.2.2.2.1,vi dZ.2.2.2.2.2.1,vi dZ.2.2.2.2.2.2.1,vi dZ.2.2.2.2.2.2.2.1,vi dZ.2.2.2.2.2.2.2.2.1,vi dZ.2.2.2.2.2.2.2.2.2.1,.int IntKind.u8 dZ.2.2.2.2.2.2.2.2.2.2])) λx13=>sh (cT [li,li,li,li,li,li,li,li,li,li,.int IntKind.u8] a1) λ(fJ:J11)=>AI ((fJ.1,fJ.2.1,fJ.2.2.1,fJ.2.2.2.1,fJ.2.2.2.2.1,fJ.2.2.2.2.2.1,fJ.2.2.2.2.2.2.1,fJ.2.2.2.2.2.2.2.1,fJ.2.2.2.2.2.2.2.2.1,fJ.2.2.2.2.2.2.2.2.2.1,fJ.2.2.2.2.2.2.2.2.2.2),decide (x11=(↑(ByteArray.size x12):Int)))
def lg (n:Nat)(a0 a1 a2 a3:Addr)(a4:ξ):M ((J11)×Bool):=eI a3 λx0=>eT a0 λx1=>if decide (x0<(↑(ByteArray.size x1):Int)) then lI a2 0 λx2=>if decide (x2=3) then rH n a0 a1 a2 a3 a4 else sh (cT [li,li,li,li,li,li,li,li,li,li,.int IntKind.u8] a2) λ(x3:J11)=>eI a3 λx4=>eT a0 λx5=>sh (tX [some a3,some a0] (rN a1 [vi x3.1,vi x3.2.1,vi x3.2.2.1,vi x3.2.2.2.1,vi x3.2.2.2.2.1,vi x3.2.2.2.2.2.1,vi x3.2.2.2.2.2.2.1,vi x3.2.2.2.2.2.2.2.1,vi x3.2.2.2.2.2.2.2.2.1,vi x3.2.2.2.2.2.2.2.2.2.1,.int IntKind.u8 x3.2.2.2.2.2.2.2.2.2.2])) λx6=>sh (cT [li,li,li,li,li,li,li,li,li,li,.int IntKind.u8] a1) λ(x7:J11)=>AI ((x7.1,x7.2.1,x7.2.2.1,x7.2.2.2.1,x7.2.2.2.2.1,x7.2.2.2.2.2.1,x7.2.2.2.2.2.2.1,x7.2.2.2.2.2.2.2.1,x7.2.2.2.2.2.2.2.2.1,x7.2.2.2.2.2.2.2.2.2.1,x7.2.2.2.2.2.2.2.2.2.2),decide (x4=(↑(ByteArray.size x5):Int))) else sh (cT [li,li,li,li,li,li,li,li,li,li,.int IntKind.u8] a2) λ(x2:J11)=>eI a3 λx3=>eT a0 λx4=>sh (tX [some a3,some a0] (rN a1 [vi x2.1,vi x2.2.1,vi x2.2.2.1,vi x2.2.2.2.1,vi x2.2.2.2.2.1,vi x2.2.2.2.2.2.1,vi x2.2.2.2.2.2.2.1,vi x2.2.2.2.2.2.2.2.1,vi x2.2.2.2.2.2.2.2.2.1,vi x2.2.2.2.2.2.2.2.2.2.1,.int IntKind.u8 x2.2.2.2.2.2.2.2.2.2.2])) λx5=>sh (cT [li,li,li,li,li,li,li,li,li,li,.int IntKind.u8] a1) λ(x6:J11)=>AI ((x6.1,x6.2.1,x6.2.2.1,x6.2.2.2.1,x6.2.2.2.2.1,x6.2.2.2.2.2.1,x6.2.2.2.2.2.2.1,x6.2.2.2.2.2.2.2.1,x6.2.2.2.2.2.2.2.2.1,x6.2.2.2.2.2.2.2.2.2.1,x6.2.2.2.2.2.2.2.2.2.2),decide (x3=(↑(ByteArray.size x4):Int)))
def rI (n:Nat)(a0 a1 a2 a3:Addr)(a4:ξ):M ((J11)×Bool):=eI a3 λx0=>sN a3 [vi (i64.wrap (x0+1))] λx1=>sh (k9 n a0 a1 a2 a3 a4 0) λx2=>if decide (x2=0) then sh (cT [li,li,li,li,li,li,li,li,li,li,.int IntKind.u8] a2) λ(x3:J11)=>sN a1 [vi x3.1,vi x3.2.1,vi x3.2.2.1,vi x3.2.2.2.1,vi x3.2.2.2.2.1,vi x3.2.2.2.2.2.1,vi x3.2.2.2.2.2.2.1,vi x3.2.2.2.2.2.2.2.1,vi x3.2.2.2.2.2.2.2.2.1,vi x3.2.2.2.2.2.2.2.2.2.1,.int IntKind.u8 x3.2.2.2.2.2.2.2.2.2.2] λx4=>sh (cT [li,li,li,li,li,li,li,li,li,li,.int IntKind.u8] a1) λ(x5:J11)=>AI ((x5.1,x5.2.1,x5.2.2.1,x5.2.2.2.1,x5.2.2.2.2.1,x5.2.2.2.2.2.1,x5.2.2.2.2.2.2.1,x5.2.2.2.2.2.2.2.1,x5.2.2.2.2.2.2.2.2.1,x5.2.2.2.2.2.2.2.2.2.1,x5.2.2.2.2.2.2.2.2.2.2),false) else sh (oJ n a0 a1 a2 a3 a4 x2) λx3=>lg n a0 a1 a2 a3 a4
def fR (n:Nat)(a0 a1 a2 a3:Addr)(a4:ξ):M ((J11)×Bool):=sh (o7 (a2.plus 1) 8 3 6 1) λx0=>sh (uL n a4 x0 2 58) λx1=>if !x1 then sh (cT [li,li,li,li,li,li,li,li,li,li,.int IntKind.u8] a2) λ(x2:J11)=>sN a1 [vi x2.1,vi x2.2.1,vi x2.2.2.1,vi x2.2.2.2.1,vi x2.2.2.2.2.1,vi x2.2.2.2.2.2.1,vi x2.2.2.2.2.2.2.1,vi x2.2.2.2.2.2.2.2.1,vi x2.2.2.2.2.2.2.2.2.1,vi x2.2.2.2.2.2.2.2.2.2.1,.int IntKind.u8 x2.2.2.2.2.2.2.2.2.2.2] λx3=>sh (cT [li,li,li,li,li,li,li,li,li,li,.int IntKind.u8] a1) λ(x4:J11)=>AI ((x4.1,x4.2.1,x4.2.2.1,x4.2.2.2.1,x4.2.2.2.2.1,x4.2.2.2.2.2.1,x4.2.2.2.2.2.2.1,x4.2.2.2.2.2.2.2.1,x4.2.2.2.2.2.2.2.2.1,x4.2.2.2.2.2.2.2.2.2.1,x4.2.2.2.2.2.2.2.2.2.2),false) else lI a2 0 λx2=>sN (a2.plus 0) [vi (i64.wrap (x2+2))] λx3=>eI a3 λx4=>eT a0 λx5=>if decide (x4<(↑(ByteArray.size x5):Int)) then eT a0 λx6=>eI a3 λx7=>sh (lj x6 x7) λx8=>if decide ((↑x8.toNat:Int)=46) then rI n a0 a1 a2 a3 a4 else lg n a0 a1 a2 a3 a4 else lg n a0 a1 a2 a3 a4
def oK (n:Nat)(a0 a1 a2 a3:Addr)(a4:ξ):M ((J11)×Bool):=sh (o7 (a2.plus 1) 8 0 3 1) λx0=>sh (uK n a4 x0 4 45) λx1=>if !x1 then sh (cT [li,li,li,li,li,li,li,li,li,li,.int IntKind.u8] a2) λ(x2:J11)=>sN a1 [vi x2.1,vi x2.2.1,vi x2.2.2.1,vi x2.2.2.2.1,vi x2.2.2.2.2.1,vi x2.2.2.2.2.2.1,vi x2.2.2.2.2.2.2.1,vi x2.2.2.2.2.2.2.2.1,vi x2.2.2.2.2.2.2.2.2.1,vi x2.2.2.2.2.2.2.2.2.2.1,.int IntKind.u8 x2.2.2.2.2.2.2.2.2.2.2] λx3=>sh (cT [li,li,li,li,li,li,li,li,li,li,.int IntKind.u8] a1) λ(x4:J11)=>AI ((x4.1,x4.2.1,x4.2.2.1,x4.2.2.2.1,x4.2.2.2.2.1,x4.2.2.2.2.2.1,x4.2.2.2.2.2.2.1,x4.2.2.2.2.2.2.2.1,x4.2.2.2.2.2.2.2.2.1,x4.2.2.2.2.2.2.2.2.2.1,x4.2.2.2.2.2.2.2.2.2.2),false) else sN (a2.plus 0) [vi 1] λx2=>eI a3 λx3=>eT a0 λx4=>if decide (x3=(↑(ByteArray.size x4):Int)) then sh (cT [li,li,li,li,li,li,li,li,li,li,.int IntKind.u8] a2) λ(x5:J11)=>sN a1 [vi x5.1,vi x5.2.1,vi x5.2.2.1,vi x5.2.2.2.1,vi x5.2.2.2.2.1,vi x5.2.2.2.2.2.1,vi x5.2.2.2.2.2.2.1,vi x5.2.2.2.2.2.2.2.1,vi x5.2.2.2.2.2.2.2.2.1,vi x5.2.2.2.2.2.2.2.2.2.1,.int IntKind.u8 x5.2.2.2.2.2.2.2.2.2.2] λx6=>sh (cT [li,li,li,li,li,li,li,li,li,li,.int IntKind.u8] a1) λ(x7:J11)=>AI ((x7.1,x7.2.1,x7.2.2.1,x7.2.2.2.1,x7.2.2.2.2.1,x7.2.2.2.2.2.1,x7.2.2.2.2.2.2.1,x7.2.2.2.2.2.2.2.1,x7.2.2.2.2.2.2.2.2.1,x7.2.2.2.2.2.2.2.2.2.1,x7.2.2.2.2.2.2.2.2.2.2),true) else eT a0 λx5=>eI a3 λx6=>sh (lj x5 x6) λx7=>if !decide ((↑x7.toNat:Int)=84) then eT a0 λx8=>eI a3 λx9=>sh (lj x8 x9) λdZ=>if !decide ((↑dZ.toNat:Int)=32) then sh (cT [li,li,li,li,li,li,li,li,li,li,.int IntKind.u8] a2) λ(x11:J11)=>sN a1 [vi x11.1,vi x11.2.1,vi x11.2.2.1,vi x11.2.2.2.1,vi x11.2.2.2.2.1,vi x11.2.2.2.2.2.1,vi x11.2.2.2.2.2.2.1,vi x11.2.2.2.2.2.2.2.1,vi x11.2.2.2.2.2.2.2.2.1,vi x11.2.2.2.2.2.2.2.2.2.1,.int IntKind.u8 x11.2.2.2.2.2.2.2.2.2.2] λx12=>sh (cT [li,li,li,li,li,li,li,li,li,li,.int IntKind.u8] a1) λ(x13:J11)=>AI ((x13.1,x13.2.1,x13.2.2.1,x13.2.2.2.1,x13.2.2.2.2.1,x13.2.2.2.2.2.1,x13.2.2.2.2.2.2.1,x13.2.2.2.2.2.2.2.1,x13.2.2.2.2.2.2.2.2.1,x13.2.2.2.2.2.2.2.2.2.1,x13.2.2.2.2.2.2.2.2.2.2),false) else eI a3 λx11=>sN a3 [vi (i64.wrap (x11+1))] λx12=>fR n a0 a1 a2 a3 a4 else eI a3 λx8=>sN a3 [vi (i64.wrap (x8+1))] λx9=>fR n a0 a1 a2 a3 a4
def n8 (n:Nat)(a0:ζ):M ((J11)×Bool):=nW vD [.string a0] λx0=>nW bN [vi 0,vi 0,vi 0,vi 0,vi 0,vi 0,vi 0,vi 0,vi 0,vi 0,.int IntKind.u8 0] λx1=>nW bN [vi 0,vi 0,vi 0,vi 0,vi 0,vi 0,vi 0,vi 0,vi 0,vi 0,.int IntKind.u8 0] λx2=>nW al [vi 0] λx3=>sN (ak x3) [vi 0] λx4=>nW xk [Value.nilFunc] λx5=>sN (ak x5) [.func (Fn.func qs) #[] #[.pointer (some (ak x3)),.pointer (some (ak x0))]] λx6=>sh (dL .str (ak x0)) λ(x7:ζ)=>if decide (2<(↑(ByteArray.size x7):Int)) then sh (dL .str (ak x0)) λ(x8:ζ)=>sh (lj x8 2) λx9=>if !decide ((↑x9.toNat:Int)=58) then oK n (ak x0) (ak x1) (ak x2) (ak x3) (Value.func (Fn.func dQ) #[] #[.pointer (some (ak x3)),.pointer (some (ak x0)),.pointer (some (ak x5))]) else fR n (ak x0) (ak x1) (ak x2) (ak x3) (Value.func (Fn.func dQ) #[] #[.pointer (some (ak x3)),.pointer (some (ak x0)),.pointer (some (ak x5))]) else fR n (ak x0) (ak x1) (ak x2) (ak x3) (Value.func (Fn.func dQ) #[] #[.pointer (some (ak x3)),.pointer (some (ak x0)),.pointer (some (ak x5))])
abbrev agX (n:Nat):dh:=eN 70 [pF] [.agg [.int .i64,.int .i64,.int .i64,.int .i64,.int .i64,.int .i64,.int .i64,.int .i64,.int .i64,.int .i64,.int .u8],jc] (n8 n)
abbrev ajk:=L1 (bL 39679) [(1,aw),(2,aw),(4,aw),(5,aw),(7,sH),(8,au)] [(8,au)] ([8]++rG 66 34) 0 k9
abbrev ajl:=L1 (bL 97023) [(1,aw),(2,aw),(4,aw),(5,aw),(7,sH),(8,au)] [] ([8]++rG 103 8) 2 oJ
abbrev ajm (n:Nat):List nH:=[dN 19 [bj,au,.one (.int .u8)] [jc] (uK n), dN 44 [bj,au,.one (.int .u8)] [jc] (uL n), dN 143 [bj,au,.one (.int .u8)] [jc] (tA n)]
def R6:=dR [(21,rG 0 11),(33,rG 0 5++[3002005,6]),(36,rG 0 5++[3002005,6])]
abbrev WQ (n:Nat):List (iB Int):=[jN (bL 596735) [.code (bL 858879),.ar 1] [(1,aw),(2,aw),(4,aw),(5,aw),(7,sH),(8,au)] (EC n)]
abbrev ajn (n:Nat):List (iB ((J11)×Bool)):=[jN (bL 1119) [.code (bL 1631),.code (bL 863),.code (bL 127)] [(1,aw),(2,aw),(4,aw),(5,aw),(7,sH)] (oK n), jN (bL 319) [.code (bL 447),.code (bL 255)] [(1,aw),(2,aw),(4,aw),(5,aw),(7,sH)] (fR n), jN (bL 4863) [.code (bL 6911),.code (bL 1023)] [(1,aw),(2,aw),(4,aw),(5,aw),(7,sH)] (rI n), jN (bL 2559) [.code (bL 3583),.code (bL 2047)] [(1,aw),(2,aw),(4,aw),(5,aw),(7,sH)] (lg n), jN (bL 9727) [.code (bL 13823),.code (bL 2047)] [(1,aw),(2,aw),(4,aw),(5,aw),(7,sH)] (rH n)]
def R7 (n:Nat):ni TZp (ajm n):=.cons (bB (.cons (ke [aw,aw,aw] (pL n)) .nil)) (.cons (bB (.cons (ke [aw,aw,aw] (pL n)) .nil)) (.cons (bB (.cons (ke [aw,aw,aw] (pL n)) .nil)) .nil))
def WR (n:Nat):=ajl.k TZp Tryz.f70 n (dr:=R6) (hT:=λm _=>⟨.nil,K7 m,(R7 m),.nil,.nil⟩)
def WS (n:Nat):=ajk.k TZp Tryz.f70 n (dr:=R6) (jt:=WQ) (hT:=λm _=>⟨.nil,K7 m,(R7 m),.nil,(.cc .nil)⟩)
def Ir (n:Nat):aC TZp (agX n):=aR Tryz.f70 (dr:=R6) (js:=ajn n) (hT:=⟨.nil,K7 n,(R7 n),(.cc (WS n) (.cc (WR n) .nil)),(.cc (.cc (.cc (.cc (.cc .nil)))))⟩)
def oL:uv (Int->Int->Int->Int->M Int):=λG n a0 a1 a2 a3=>if decide (a3<a1) then sh (nU n a0 a3) λx0=>G a0 a1 (i64.wrap (a2+x0)) (i64.wrap (a3+1)) else AI a2
def j6:=lp oL
theorem rX (n:Nat):j6 (n+1)=oL (j6 n) n:=rfl
def DX (n:Nat)(a0 a1 a2:Int):M (Int×Int):=sh (vE n a0) λx0=>sh (j6 n a0 a1 (i64.wrap (i64.wrap (i64.wrap (x0+a2)-1)-719528)) 1) λx1=>AI (x1,0)
def Al (n:Nat)(a0 a1 a2:Int):M (Int×Int):=if decide (a0<0) then AI (0,13) else if decide (9999<a0) then AI (0,13) else if decide (a1<1) then AI (0,13) else if decide (12<a1) then AI (0,13) else if decide (a2<1) then AI (0,13) else sh (nU n a0 a1) λx0=>if decide (x0<a2) then AI (0,13) else DX n a0 a1 a2
abbrev aae (n:Nat):dh:=eN 102 [au,au,au] [au,au] (Al n)
abbrev aeb:=L1 (bL 87) [(0,au),(1,au),(8,au),(9,au)] [(8,au)] ([8,9]++rG 41 10) 0 j6
abbrev aec (n:Nat):List (iB (Int×Int)):=[jN [0,1,1] [.code [1,1,1]] [(0,au),(1,au),(2,au)] (DX n)]
def R8 (n:Nat):=aeb.k TZp Tryz.f102 n (hT:=λm _=>.m1 (K7 m))
def LA (n:Nat):aC TZp (aae n):=aR Tryz.f102 (js:=aec n) (hT:=⟨.nil,K7 n,.nil,(.cc (R8 n) .nil),(.cc .nil)⟩)
def rJ:uv (Int->Int->Int->M (Int×Int)):=λG n a0 a1 a2=>sh (nU n a1 a2) λx0=>if decide (x0<=a0) then sh (nU n a1 a2) λx1=>G (i64.wrap (a0-x1)) a1 (i64.wrap (a2+1)) else AI (a0,a2)
def lZ:=lp rJ
theorem xA (n:Nat):lZ (n+1)=rJ (lZ n) n:=rfl
def rK:uv (Int->Int->M Int):=λG n a0 a1=>sh (vE n (i64.wrap (a1+1))) λx0=>if decide (x0<=a0) then G a0 (i64.wrap (a1+1)) else AI a1
def mc:=lp rK
theorem xB (n:Nat):mc (n+1)=rK (mc n) n:=rfl
def yO (n:Nat)(a0:Int):M (Int×Int×Int×Int):=sh (pD (decide (366≠0))) λx0=>sh (mc n (i64.wrap (a0+719528)) (i64.wrap ((i64.wrap (a0+719528)).tdiv 366))) λx1=>sh (vE n x1) λx2=>sh (lZ n (i64.wrap (i64.wrap (a0+719528)-x2)) x1 1) λx3=>AI (x1,x3.2,i64.wrap (x3.1+1),0)
def ED (n:Nat)(a0:Int):M (Int×Int×Int×Int):=if decide (a0 < -719528) then AI (0,0,0,13) else if decide (2932896<a0) then AI (0,0,0,13) else yO n a0
abbrev aaf (n:Nat):dh:=eN 103 [au] [au,au,au,au] (ED n)
abbrev aed:=L1 (bL 79) [(6,au),(7,au)] [(7,au)] ([7]++rG 19 7) 0 mc
abbrev aee:=L1 (bL 639) [(6,au),(7,au),(8,au)] [(6,au),(8,au)] ([6,8]++rG 30 12) 2 lZ
abbrev aef (n:Nat):List (iB (Int×Int×Int×Int)):=[jN [0,1,1] [.code [1,1,1]] [(0,au)] (yO n)]
def R9 (n:Nat):=aee.k TZp Tryz.f103 n (hT:=λm _=>.m1 (K7 m))
def Sa (n:Nat):=aed.k TZp Tryz.f103 n (hT:=λm _=>.m1 (K7 m))
def LC (n:Nat):aC TZp (aaf n):=aR Tryz.f103 (js:=aef n) (hT:=⟨.nil,K7 n,.nil,(.cc (Sa n) (.cc (R9 n) .nil)),(.cc .nil)⟩)
def gT (n:Nat)(a0:Addr)(a1:ζ):M ζ:=lI a0 9 λx0=>if decide (0<x0) then lI a0 9 λx1=>sh (j5 n x1 9) λx2=>sh (gQ n x2 (ofBytes [48])) λx3=>sh (kc (ofBytes [46]) x3) λx4=>sh (kc a1 x4) λx5=>AI x5 else AI a1
def ep (n:Nat)(a0:Addr)(a1:ζ):M ζ:=lI a0 0 λx0=>if !decide (x0=1) then sh (pD (decide (0<=3/\3<(↑8:Int)))) λx1=>sh (pD (decide (0<=4/\4<(↑8:Int)))) λx2=>sh (pD (decide (0<=5/\5<(↑8:Int)))) λx3=>lI (a0.plus 1) 3 λx4=>lI (a0.plus 1) 4 λx5=>lI (a0.plus 1) 5 λx6=>sh (tX [some ((a0.plus 1).plus 4),some ((a0.plus 1).plus 5)] (j5 n x4 2)) λx7=>sh (kc x7 (ofBytes [58])) λx8=>sh (tX [some ((a0.plus 1).plus 5)] (j5 n x5 2)) λx9=>sh (kc x8 x9) λdZ=>sh (kc dZ (ofBytes [58])) λx11=>sh (j5 n x6 2) λx12=>sh (kc x11 x12) λx13=>sh (kc a1 x13) λfJ=>gT n a0 fJ else gT n a0 a1
def jF (n:Nat)(a0:J11):M ζ:=nW bN [vi a0.1,vi a0.2.1,vi a0.2.2.1,vi a0.2.2.2.1,vi a0.2.2.2.2.1,vi a0.2.2.2.2.2.1,vi a0.2.2.2.2.2.2.1,vi a0.2.2.2.2.2.2.2.1,vi a0.2.2.2.2.2.2.2.2.1,vi a0.2.2.2.2.2.2.2.2.2.1,.int IntKind.u8 a0.2.2.2.2.2.2.2.2.2.2] λx0=>lI (ak x0) 0 λx1=>if !decide (x1=2) then sh (pD (decide (0<=0/\0<(↑8:Int)))) λx2=>sh (pD (decide (0<=1/\1<(↑8:Int)))) λx3=>sh (pD (decide (0<=2/\2<(↑8:Int)))) λx4=>sh (dL li (((ak x0).plus 1).plus 0)) λ(x5:Int)=>sh (dL li (((ak x0).plus 1).plus 1)) λ(x6:Int)=>sh (dL li (((ak x0).plus 1).plus 2)) λ(x7:Int)=>sh (tX [some (((ak x0).plus 1).plus 1),some (((ak x0).plus 1).plus 2)] (j5 n x5 4)) λx8=>sh (kc x8 (ofBytes [45])) λx9=>sh (tX [some (((ak x0).plus 1).plus 2)] (j5 n x6 2)) λdZ=>sh (kc x9 dZ) λx11=>sh (kc x11 (ofBytes [45])) λx12=>sh (j5 n x7 2) λx13=>sh (kc x12 x13) λfJ=>lI (ak x0) 0 λx15=>if decide (x15=3) then sh (kc fJ (ofBytes [84])) λsK=>ep n (ak x0) sK else ep n (ak x0) fJ else lI (ak x0) 0 λx2=>if decide (x2=3) then sh (kc (ofBytes []) (ofBytes [84])) λx3=>ep n (ak x0) x3 else ep n (ak x0) (ofBytes [])
abbrev aag (n:Nat):dh:=eN 104 [.agg [.int .i64,.int .i64,.int .i64,.int .i64,.int .i64,.int .i64,.int .i64,.int .i64,.int .i64,.int .i64,.int .u8]] [pF] (jF n)
def aeg:=dR [(3,[0,1,5,6,11,12,2,7,13,14008003,4,14008,9,10,14,15,16]),(7,[0,1,2,6,7,12,13,3,8,14,15009004,5,15009,10,11,15,16,17,18])]
abbrev aeh (n:Nat):List (iB ζ):=[jN (bL 79) [.code (bL 111),.code [1,1,1,1,1]] [(1,aw),(3,pF)] (ep n), jN (bL 159) [.code (bL 223),.code (bL 127)] [(1,aw),(3,pF)] (gT n)]
def Am (n:Nat):aC TZp (aag n):=aR Tryz.f104 (dr:=aeg) (js:=aeh n) (hT:=.m3 (K7 n) (.cc (.cc .nil)))
def tB:uv (Addr->Sl->Sl->Int->Int->Sl->Int->Int->M Unit):=λG n a0 a1 a2 a3 a4 a5 a6 a7=>if decide (a7<a6) then iX a5 a7 1 λx0=>eI x0 λx1=>gL a0 λx2=>sh (qZ n (x2.1,x2.2) x1 a1) λx3=>G a0 a1 a2 a3 a4 a5 a6 (i64.wrap (a7+1)) else AI ()
def oM:=lp tB
theorem B9 (n:Nat):oM (n+1)=tB (oM n) n:=rfl
def tC:uv (Addr->Sl->Sl->Int->Int->M Unit):=λG n a0 a1 a2 a3 a4=>if decide (a4<a3) then iX a2 a4 5 λx0=>nL x0 λx1=>nW av [vi 0,.string (ofBytes []),.bool false,aE,aE] λx2=>sN (ak x2) [vi x1.1,.string x1.2.1,.bool x1.2.2.1,aA x1.2.2.2.1,aA x1.2.2.2.2] λx3=>lS (ak x2) 3 λx4=>sh (oM n a0 a1 a2 a3 a4 x4 (↑x4.len:Int) 0) λx5=>G a0 a1 a2 a3 (i64.wrap (a4+1)) else AI ()
def oN:=lp tC
theorem Ca (n:Nat):oN (n+1)=tC (oN n) n:=rfl
def wI (n:Nat)(a0:Sl×Int):M Sl:=nW aj [aA a0.1,vi a0.2] λx0=>lS (ak x0) 0 λx1=>sh (w9 none Ep [.bool false] (↑x1.len:Int) (↑x1.len:Int)) λx2=>lS (ak x0) 0 λx3=>sh (oN n (ak x0) x2 x3 (↑x3.len:Int) 0) λx4=>AI x2
abbrev agY (n:Nat):dh:=eN 19 [.agg [.sl,.int .i64]] [bj] (wI n)
abbrev ajo:=L1 [0,1,0,1,1] [(1,aw),(3,bj),(13,bj),(14,au),(15,au)] [] ([5,7]++rG 15 17) 0 oN
abbrev ajp:=L1 (bL 11467) [(1,aw),(3,bj),(13,bj),(14,au),(15,au),(20,bj),(21,au),(22,au)] [] ([7]++rG 22 9) 2 oM
def WT (n:Nat):=ajp.k TZp Tryz.f19 n (hT:=λm _=>.m1 (K7 m))
def WU (n:Nat):=ajo.k TZp Tryz.f19 n (hT:=λm _=>.m2 (K7 m) (.cc (WT m) .nil))
def It (n:Nat):aC TZp (agY n):=aR Tryz.f19 (hT:=.m2 (K7 n) (.cc (WU n) .nil))
def uM:uv (Addr->Sl->Sl->Bool->Sl->Sl->Int->Int->Int->Sl->Int->Int->Sl->Int->Int->Sl->Int->Int->M Bool):=λG n a0 a1 a2 a3 a4 a5 a6 a7 a8 a9 a10 a11 a12 a13 a14 a15 a16 a17=>if decide (a17<a16) then iX a15 a17 1 λx0=>eI x0 λx1=>iX a1 x1 1 λx2=>eI x2 λx3=>if decide (x3=a6) then G a0 a1 a2 false a4 a5 a6 a7 a8 a9 a10 a11 a12 a13 a14 a15 a16 (i64.wrap (a17+1)) else iX a4 a6 1 λx4=>iX a1 x1 1 λx5=>eI x4 λx6=>eI x5 λx7=>iX a4 x7 1 λx8=>eI x8 λx9=>iX a4 a6 1 λdZ=>sN dZ [vi (if x6<x9 then x9 else x6)] λx11=>G a0 a1 a2 a3 a4 a5 a6 a7 a8 a9 a10 a11 a12 a13 a14 a15 a16 (i64.wrap (a17+1)) else AI a3
def p8:=lp uM
theorem Dt (n:Nat):p8 (n+1)=uM (p8 n) n:=rfl
def mT:uv (Addr->Sl->Sl->Bool->Sl->Sl->Int->Int->Int->Sl->Int->Int->Sl->Int->Int->M Bool):=λG n a0 a1 a2 a3 a4 a5 a6 a7 a8 a9 a10 a11 a12 a13 a14=>if decide (a14<a13) then iX a12 a14 1 λx0=>eS x0 λx1=>sh (p8 n a0 a1 a2 a3 a4 a5 a6 a7 a8 a9 a10 a11 a12 a13 a14 x1 (↑x1.len:Int) 0) λx2=>G a0 a1 a2 x2 a4 a5 a6 a7 a8 a9 a10 a11 a12 a13 (i64.wrap (a14+1)) else AI a3
def p9:=lp mT
theorem qM (n:Nat):p9 (n+1)=mT (p9 n) n:=rfl
def uN:uv (Addr->Sl->Sl->Bool->Sl->Sl->Int->Int->Int->Sl->Int->Int->M Bool):=λG n a0 a1 a2 a3 a4 a5 a6 a7 a8 a9 a10 a11=>if decide (a11<a10) then iX a9 a11 1 λx0=>eI x0 λx1=>sh (dP 15) λx2=>lS a0 0 λx3=>iX x3 x1 5 λx4=>lS x4 3 λx5=>lS a0 0 λx6=>iX x6 x1 5 λx7=>lS x7 4 λx8=>sh (iI (some (x2+12)) aF [aA x5,aA x8]) λx9=>sh (p9 n a0 a1 a2 a3 a4 a5 a6 a7 a8 a9 a10 a11 { a:=some (ak x9),len:=2,cap:=3 } (↑2:Int) 0) λdZ=>G a0 a1 a2 dZ a4 a5 a6 a7 a8 a9 a10 (i64.wrap (a11+1)) else AI a3
def qa:=lp uN
theorem Du (n:Nat):qa (n+1)=uN (qa n) n:=rfl
def uO:uv (Addr->Sl->Sl->Bool->Sl->Sl->Int->Int->M Bool):=λG n a0 a1 a2 a3 a4 a5 a6 a7=>if decide (a7<a6) then iX a5 a7 1 λx0=>eS x0 λx1=>sh (qa n a0 a1 a2 a3 a4 a5 a7 a6 a7 x1 (↑x1.len:Int) 0) λx2=>iX a4 a7 1 λx3=>iX a2 a7 1 λx4=>eI x3 λx5=>eI x4 λx6=>iX a4 a7 1 λx7=>sN x7 [vi (i64.wrap (x5+x6))] λx8=>G a0 a1 a2 x2 a4 a5 a6 (i64.wrap (a7+1)) else AI a3
def qb:=lp uO
theorem Dv (n:Nat):qb (n+1)=uO (qb n) n:=rfl
def uP:uv (Addr->Sl->Sl->Bool->Sl->Sl->Sl->Int->Int->M Unit):=λG n a0 a1 a2 a3 a4 a5 a6 a7 a8=>if decide (a8<a7) then iX a6 a8 1 λx0=>eI x0 λx1=>iX a5 x1 1 λx2=>eS x2 λx3=>sh (app false x3 1 al 1 [vi a8]) λx4=>iX a5 x1 1 λx5=>sN x5 [aA x4] λx6=>G a0 a1 a2 a3 a4 a5 a6 a7 (i64.wrap (a8+1)) else AI ()
def qc:=lp uP
theorem Dw (n:Nat):qc (n+1)=uP (qc n) n:=rfl
def vG (n:Nat)(a0:Sl×Int):M (Int×Bool):=nW aj [aA a0.1,vi a0.2] λx0=>gL (ak x0) λx1=>sh (qz n (x1.1,x1.2)) λx2=>sh (w9 none al [vi 0] (↑x2.2.len:Int) (↑x2.2.len:Int)) λx3=>sh (w9 none aF [aE] (↑x2.2.len:Int) (↑x2.2.len:Int)) λx4=>sh (qc n (ak x0) x2.1 x2.2 true x3 x4 x2.1 (↑x2.1.len:Int) 0) λx5=>sh (qb n (ak x0) x2.1 x2.2 true x3 x4 (↑x2.2.len:Int) 0) λx6=>lI (ak x0) 1 λx7=>iX x2.1 x7 1 λx8=>eI x8 λx9=>iX x3 x9 1 λdZ=>eI dZ λx11=>AI (i64.wrap (x11-1),x6)
abbrev agZ (n:Nat):dh:=eN 21 [.agg [.sl,.int .i64]] [au,jc] (vG n)
abbrev ajq:=L1 (bL 351) [(1,aw),(4,bj),(5,bj),(6,jc),(7,bj),(8,bj),(29,bj),(30,au),(31,au)] [] ([9,10]++rG 31 16) 0 qc
abbrev ajr:=L1 (bL 703) [(1,aw),(4,bj),(5,bj),(6,jc),(7,bj),(8,bj),(48,au),(49,au)] [(6,jc)] ([6,11,13,15,17]++rG 49 71) 2 qb
abbrev ajs:=L1 (bL 347327) [(1,aw),(4,bj),(5,bj),(6,jc),(7,bj),(8,bj),(11,au),(48,au),(49,au),(55,bj),(56,au),(57,au)] [(6,jc)] ([6,13,15,17]++rG 57 52) 4 qa
abbrev ajt:=L1 (bL 93932735) [(1,aw),(4,bj),(5,bj),(6,jc),(7,bj),(8,bj),(11,au),(48,au),(49,au),(55,bj),(56,au),(57,au),(73,bj),(74,au),(75,au)] [(6,jc)] ([6,15,17]++rG 75 33) 6 p9
abbrev aju:=L1 (bL 24051797183) [(1,aw),(4,bj),(5,bj),(6,jc),(7,bj),(8,bj),(11,au),(48,au),(49,au),(55,bj),(56,au),(57,au),(73,bj),(74,au),(75,au),(79,bj),(80,au),(81,au)] [(6,jc)] ([6,17]++rG 81 26) 8 p8
def He:=dR [(16,[0,2,6,8,14,1,3,4,5,7]++rG 9 5),(24,rG 0 5++[6,7,8,9,5]++rG 10 6),(28,[0,1,2,4,5,6,3,7,8,9,10])]
def WV (n:Nat):=aju.k TZp Tryz.f21 n (dr:=He) (hT:=λm _=>.m1 (K7 m))
def WW (n:Nat):=ajt.k TZp Tryz.f21 n (dr:=He) (hT:=λm _=>.m2 (K7 m) (.cc (WV m) .nil))
def WX (n:Nat):=ajs.k TZp Tryz.f21 n (dr:=He) (hT:=λm _=>.m2 (K7 m) (.cc (WW m) .nil))
def WY (n:Nat):=ajr.k TZp Tryz.f21 n (dr:=He) (hT:=λm _=>.m2 (K7 m) (.cc (WX m) .nil))
def WZ (n:Nat):=ajq.k TZp Tryz.f21 n (dr:=He) (hT:=λm _=>.m1 (K7 m))
def J9 (n:Nat):aC TZp (agZ n):=aR Tryz.f21 (dr:=He) (hT:=.m2 (K7 n) (.cc (WZ n) (.cc (WY n) .nil)))
def pn (n:Nat)(a0:Int):M Int:=sh (rm n (IntKind.u64.wrap a0)) λx0=>sh (pD (decide (0<=x0))) λx1=>AI (IntKind.u64.wrap (1*2^min (Int.toNat x0) 64))
abbrev aah (n:Nat):dh:=eN 144 [au] [.one (.int .u64)] (pn n)
def yP (n:Nat):aC TZp (aah n):=aR Tryz.f144 (hT:=.m1 (K7 n))
def kE (n:Nat)(a0 a1:Addr):M Int:=lB a0 0 λx0=>if x0 then lS a1 1 λx1=>lS a0 1 λx2=>sh (tk n x1 x2) λx3=>AI x3 else lS a0 1 λx1=>lS a1 1 λx2=>sh (tk n x1 x2) λx3=>AI x3
def tD (n:Nat)(a0 a1:Addr):M Int:=lB a0 0 λx0=>if x0 then lB a1 0 λx1=>if !x1 then AI (-1) else lB a0 0 λx2=>if !x2 then lB a1 0 λx3=>if x3 then AI 1 else kE n a0 a1 else kE n a0 a1 else lB a0 0 λx1=>if !x1 then lB a1 0 λx2=>if x2 then AI 1 else kE n a0 a1 else kE n a0 a1
def yq (n:Nat)(a0 a1:ζ):M Int:=sh (qx n a0) λx0=>nW aD [.bool false,aE] λx1=>sN (ak x1) [.bool x0.1.1,aA x0.1.2] λx2=>sh (qx n a1) λx3=>nW aD [.bool false,aE] λx4=>sN (ak x4) [.bool x3.1.1,aA x3.1.2] λx5=>if !x0.2 then AI 0 else if !x3.2 then AI 0 else tD n (ak x1) (ak x4)
abbrev aai (n:Nat):dh:=eN 139 [pF,pF] [au] (yq n)
abbrev aei (n:Nat):List (iB Int):=[jN (bL 143) [.code (bL 207),.ar 0,.code [1,1,1,1,1]] [(5,aw),(7,aw)] (tD n), jN (bL 3023) [.code (bL 4047),.ar 0,.code [1,1,1,1,1]] [(5,aw),(7,aw)] (kE n)]
def Kc (n:Nat):aC TZp (aai n):=aR Tryz.f139 (js:=aei n) (hT:=.m3 (K7 n) (.cc (.cc .nil)))
def rL (n:Nat)(a0 a1:Bool×Sl×Int):M Int:=nW bw [.bool a0.1,aA a0.2.1,vi a0.2.2] λx0=>nW bw [.bool a1.1,aA a1.2.1,vi a1.2.2] λx1=>lB (ak x0) 0 λx2=>lB (ak x1) 0 λx3=>if !x2==x3 then lB (ak x0) 0 λx4=>if x4 then AI (-1) else AI 1 else sh (cT [.bool,.sl,li] (ak x0)) λ(x4:Bool×Sl×Int)=>sh (cT [.bool,.sl,li] (ak x1)) λ(x5:Bool×Sl×Int)=>sh (nY n (x4.1,x4.2.1,x4.2.2) (x5.1,x5.2.1,x5.2.2)) λx6=>sh (vp n x6) λx7=>lB (ak x0) 0 λx8=>if x8 then AI (i64.wrap (0-x7)) else AI x7
abbrev aaj (n:Nat):dh:=eN 174 [.agg [.bool,.sl,.int .i64],.agg [.bool,.sl,.int .i64]] [au] (rL n)
def EE (n:Nat):aC TZp (aaj n):=aR Tryz.f174 (hT:=.m1 (K7 n))
def strings_Compare (n:Nat)(a0 a1:ζ):M Int:=sh (mS n a0 a1) λx0=>AI x0
abbrev aak (n:Nat):dh:=eN 142 [pF,pF] [au] (strings_Compare n)
def EF (n:Nat):aC TZp (aak n):=aR Tryz.f142 (hT:=.m1 (K7 n))
structure aG where
 jG:Addr->Addr->Addr->Int->Addr->Sl->Sl->Int->Int->Addr->Sl->Int->Int->Sl->Int->Int->Sl->Int->Int->M Unit
 jH:Addr->Addr->Addr->Int->Addr->Sl->Sl->Int->Int->Addr->Addr->Sl->Int->Int->Sl->Int->Int->Sl->Int->Int->M Unit
 jI:Addr->Addr->Addr->Int->Addr->Sl->Sl->Int->Int->Sl->Int->Int->Sl->Int->Int->M Unit
 jJ:Addr->Addr->Addr->Int->Addr->Sl->Sl->Sl->Int->Int->M (Sl×Sl)
 mU:Int->Addr->Addr->Addr->Addr->Addr->Addr->Addr->M Int
def sC (G:aG)(n:Nat)(x:ξ)(a0:Int):M Int:=if nG rR x then sh (mr [aw,aw,aw,aw,aw,aw,aw] x) λ(c:Addr×Addr×Addr×Addr×Addr×Addr×Addr)=>G.mU a0 c.1 c.2.1 c.2.2.1 c.2.2.2.1 c.2.2.2.2.1 c.2.2.2.2.2.1 c.2.2.2.2.2.2 else AS
def Bb (G:aG)(n:Nat)(a0 a1 a2:Addr)(a3:Int)(a4:Addr)(a5 a6:Sl)(a7 a8:Int)(a9:Addr)(a10:Sl)(a11 a12:Int)(a13:Sl)(a14 a15:Int)(a16:Sl)(a17 a18:Int):M Unit:=if decide (a18<a17) then iX a16 a18 1 λx0=>eI x0 λx1=>lS a9 4 λx2=>sh (app false x2 1 al 1 [vi (i64.wrap (x1+a8))]) λx3=>sN (a9.plus 4) [aA x3] λx4=>G.jG a0 a1 a2 a3 a4 a5 a6 a7 a8 a9 a10 a11 a12 a13 a14 a15 a16 a17 (i64.wrap (a18+1)) else AI ()
def Bc (G:aG)(n:Nat)(a0 a1 a2:Addr)(a3:Int)(a4:Addr)(a5 a6:Sl)(a7 a8:Int)(a9 a10:Addr)(a11:Sl)(a12 a13:Int)(a14:Sl)(a15 a16:Int)(a17:Sl)(a18 a19:Int):M Unit:=if decide (a19<a18) then iX a17 a19 1 λx0=>eI x0 λx1=>lS a10 3 λx2=>sh (app false x2 1 al 1 [vi (i64.wrap (x1+a8))]) λx3=>sN (a10.plus 3) [aA x3] λx4=>G.jH a0 a1 a2 a3 a4 a5 a6 a7 a8 a9 a10 a11 a12 a13 a14 a15 a16 a17 a18 (i64.wrap (a19+1)) else AI ()
def Be (G:aG)(n:Nat)(a0 a1 a2:Addr)(a3:Int)(a4:Addr)(a5 a6:Sl)(a7 a8:Int)(a9:Sl)(a10 a11:Int)(a12:Sl)(a13 a14:Int):M Unit:=if decide (a14<a13) then iX a12 a14 5 λx0=>nL x0 λx1=>nW av [vi 0,.string (ofBytes []),.bool false,aE,aE] λx2=>sN (ak x2) [vi x1.1,.string x1.2.1,.bool x1.2.2.1,aA x1.2.2.2.1,aA x1.2.2.2.2] λx3=>lI (ak x2) 0 λx4=>lT (ak x2) 1 λx5=>lB (ak x2) 2 λx6=>nW av [vi 0,.string (ofBytes []),.bool false,aE,aE] λx7=>sN (ak x7) [vi x4,.string x5,.bool x6,aE,aE] λx8=>lS (ak x2) 3 λx9=>sh (G.jH a0 a1 a2 a3 a4 a5 a6 a7 a8 (ak x2) (ak x7) a9 a10 a11 a12 a13 a14 x9 (↑x9.len:Int) 0) λdZ=>lS (ak x2) 4 λx11=>sh (G.jG a0 a1 a2 a3 a4 a5 a6 a7 a8 (ak x7) a9 a10 a11 a12 a13 a14 x11 (↑x11.len:Int) 0) λx12=>lS a0 0 λx13=>nL (ak x7) λfJ=>sh (app false x13 5 av 1 [vi fJ.1,.string fJ.2.1,.bool fJ.2.2.1,aA fJ.2.2.2.1,aA fJ.2.2.2.2]) λx15=>sN (a0.plus 0) [aA x15] λsK=>G.jI a0 a1 a2 a3 a4 a5 a6 a7 a8 a9 a10 a11 a12 a13 (i64.wrap (a14+1)) else AI ()
def mf (G:aG)(n:Nat)(a0 a1 a2:Addr)(a3:Int)(a4:Addr)(a5 a6:Sl)(a7:Int)(a8:Sl)(a9 a10:Int):M (Sl×Sl):=sh (dL .raw a2) λ(x0:ξ)=>lS a4 4 λx1=>iX x1 a7 1 λx2=>eI x2 λx3=>sh (sC G n x0 x3) λx4=>sh (app true a6 1 al 1 [vi x4]) λx5=>G.jJ a0 a1 a2 a3 a4 a5 x5 a8 a9 (i64.wrap (a10+1))
def Bf (G:aG)(n:Nat)(a0 a1 a2:Addr)(a3:Int)(a4:Addr)(a5 a6 a7:Sl)(a8 a9:Int):M (Sl×Sl):=if decide (a9<a8) then iX a7 a9 1 λx0=>eI x0 λx1=>lI a4 0 λx2=>if decide (x2=10) then sh (dP 9) λx3=>gL a1 λx4=>lS a4 3 λx5=>iX x5 x1 1 λx6=>eI x6 λx7=>sh (wY n (x4.1,x4.2) x7) λx8=>sh (iI (some (x3+7)) aj [aE,vi 0]) λx9=>sN (ak x9) [aA x8.1,vi x8.2] λdZ=>lS a0 0 λx11=>lS (ak x9) 0 λx12=>sh (G.jI a0 a1 a2 a3 a4 a5 a6 x1 (↑x11.len:Int) a7 a8 a9 x12 (↑x12.len:Int) 0) λx13=>sh (app false a5 1 al 1 [vi (↑x11.len:Int)]) λfJ=>mf G n a0 a1 a2 a3 a4 fJ a6 x1 a7 a8 a9 else mf G n a0 a1 a2 a3 a4 a5 a6 x1 a7 a8 a9 else AI (a5,a6)
def EG (G:aG)(n:Nat)(a0:Int)(a1 a2 a3 a4 a5 a6 a7:Addr):M Int:=sh (dL .mp a1) λ(x0:μ)=>eS a2 λx1=>iX x1 a0 1 λx2=>eI x2 λx3=>sh (vx al (Ty.one li) 0 x0 (vi x3)) λ(x4:Bool×Int)=>if x4.1 then AI x4.2 else sh (dL .mp a3) λ(x5:μ)=>eS a2 λx6=>iX x6 a0 1 λx7=>eI x7 λx8=>sh (vx al (Ty.one li) 0 x5 (vi x8)) λ(x9:Bool×Int)=>lS a4 0 λdZ=>sh (dL .mp a1) λ(x11:μ)=>eS a2 λx12=>iX x12 x9.2 1 λx13=>eI x13 λfJ=>sh (DP al x11 (vi fJ) (vi (↑dZ.len:Int))) λx15=>lS a5 0 λsK=>iX sK x9.2 5 λx17=>nL x17 λuy=>nW av [vi 0,.string (ofBytes []),.bool false,aE,aE] λx19=>sN (ak x19) [vi uy.1,.string uy.2.1,.bool uy.2.2.1,aA uy.2.2.2.1,aA uy.2.2.2.2] λx20=>lS a4 0 λx21=>lI (ak x19) 0 λx22=>lT (ak x19) 1 λx23=>lB (ak x19) 2 λx24=>sh (app false x21 5 av 1 [vi x22,.string x23,.bool x24,aE,aE]) λx25=>sN (a4.plus 0) [aA x25] λx26=>eS a6 λx27=>iX x27 x9.2 1 λx28=>eS x28 λx29=>sh (G.jJ a4 a5 a7 (↑dZ.len:Int) (ak x19) ow ow x29 (↑x29.len:Int) 0) λx30=>lS a4 0 λx31=>iX x31 (↑dZ.len:Int) 5 λx32=>lS a4 0 λx33=>sh (tX [some (a4.plus 0)] (rN (x32.plus 3) [aA x30.1])) λx34=>iX x33 (↑dZ.len:Int) 5 λx35=>sN (x35.plus 4) [aA x30.2] λx36=>AI (↑dZ.len:Int)
def aG.at:Nat->aG|0=>⟨λ_ _ _ _ _ _ _ _ _ _ _ _ _ _ _ _ _ _ _=>AS,λ_ _ _ _ _ _ _ _ _ _ _ _ _ _ _ _ _ _ _ _=>AS,λ_ _ _ _ _ _ _ _ _ _ _ _ _ _ _=>AS,λ_ _ _ _ _ _ _ _ _ _=>AS,λ_ _ _ _ _ _ _ _=>AS⟩|n+1=>⟨Bb (aG.at n) n,Bc (aG.at n) n,Be (aG.at n) n,Bf (aG.at n) n,EG (aG.at n) n⟩
def jG (n:Nat):=(aG.at n).jG
def jH (n:Nat):=(aG.at n).jH
def jI (n:Nat):=(aG.at n).jI
def jJ (n:Nat):=(aG.at n).jJ
def mU (n:Nat):=(aG.at n).mU
def Bg (n:Nat):=sC (aG.at n) n
def An (n:Nat):=mf (aG.at n) n
abbrev Ut (n:Nat):dh:=eN 44 [au,aw,aw,aw,aw,aw,aw,aw] [au] (mU n)
abbrev ajv:=L1 (bL 2815) [(4,aw),(5,aw),(7,aw),(12,au),(13,aw),(14,bj),(15,bj),(73,bj),(74,au),(75,au)] [(14,bj),(15,bj)] ([14,15,17,18,19,21,22,24,26]++rG 75 85) 0 jJ
abbrev ajw:=L1 (bL 45429503) [(4,aw),(5,aw),(7,aw),(12,au),(13,aw),(14,bj),(15,bj),(17,au),(19,au),(73,bj),(74,au),(75,au),(93,bj),(94,au),(95,au)] [] ([21,22,24,26]++rG 95 50) 2 jI
abbrev ajx:=L1 (bL 46384100095) [(4,aw),(5,aw),(7,aw),(12,au),(13,aw),(14,bj),(15,bj),(17,au),(19,au),(21,aw),(22,aw),(73,bj),(74,au),(75,au),(93,bj),(94,au),(95,au),(107,bj),(108,au),(109,au)] [] ([24]++rG 109 13) 4 jH
abbrev ajy:=L1 (bL 93628740351) [(4,aw),(5,aw),(7,aw),(12,au),(13,aw),(14,bj),(15,bj),(17,au),(19,au),(22,aw),(73,bj),(74,au),(75,au),(93,bj),(94,au),(95,au),(123,bj),(124,au),(125,au)] [] ([26]++rG 125 13) 6 jG
abbrev C8 (n:Nat):List dh:=Ut n::C7 n
abbrev ajz (n:Nat):List nH:=[dN 150 [au] [au] (Bg n)]
def Kd:=dR [(1,[2,0,1]++rG 3 8),(4,[2,0,1,3,4,5,6]),(6,[2,5,0,1,3,4,6]),(14,[1,3,0,2]++rG 4 5),(33,[0,2,4,1,3]++rG 5 6),(35,[0,2,3,5,6,7,1,8,9,4,5010,11,12,13])]
abbrev W1 (n:Nat):List (iB (Sl×Sl)):=[jN (bL 471807) [.ar 1,.code (bL 62207)] [(4,aw),(5,aw),(7,aw),(12,au),(13,aw),(14,bj),(15,bj),(17,au),(73,bj),(74,au),(75,au)] (An n)]
def eA (n:Nat):Prop:=aC TZp (Ut n)
def W4 (n:Nat)(H:eA n):cV TZp (C8 n):=.cons H (K7 n)
def Ke (n:Nat)(H:eA n):ni TZp (ajz n):=.cons (bB (.cons (ke [aw,aw,aw,aw,aw,aw,aw] (H)) .nil)) .nil
def W5 (n:Nat)(H:Hy eA n):=ajy.k TZp Tryz.f44 n (dr:=Kd) (hT:=λm hm=>⟨.nil,W4 m ((H.d hm).s),(Ke m ((H.d hm).s)),.nil,.nil⟩)
def W6 (n:Nat)(H:Hy eA n):=ajx.k TZp Tryz.f44 n (dr:=Kd) (hT:=λm hm=>⟨.nil,W4 m ((H.d hm).s),(Ke m ((H.d hm).s)),.nil,.nil⟩)
def W7 (n:Nat)(H:Hy eA n):=ajw.k TZp Tryz.f44 n (dr:=Kd) (hT:=λm hm=>⟨.nil,W4 m ((H.d hm).s),(Ke m ((H.d hm).s)),(.cc (W6 m (H.d hm)) (.cc (W5 m (H.d hm)) .nil)),.nil⟩)
def W8 (n:Nat)(H:Hy eA n):=ajv.k TZp Tryz.f44 n (dr:=Kd) (jt:=W1) (hT:=λm hm=>⟨.nil,W4 m ((H.d hm).s),(Ke m ((H.d hm).s)),(.cc (W7 m (H.d hm)) .nil),(.cc .nil)⟩)
def yQ (n:Nat)(H:Hy eA n):aC TZp (Ut (n+1)):=aR Tryz.f44 (dr:=Kd) (hT:=⟨.nil,W4 n (H.s),(Ke n (H.s)),(.cc (W8 n H) .nil),.nil⟩)
def tE (n:Nat):eA n:=FF (Q:=eA) (eE Tryz.f44) yQ n
def Dx (n:Nat):aC TZp (Ut n):=(tE n)
def K8 (n:Nat):cV TZp (C8 n):=W4 n (tE n)
def aL (n:Nat)(a0:θ)(a1:Int):M ξ:=sh (kT n a0) λx0=>sh (nn a0) λx1=>lS x1 1 λx2=>sh (app false x2 1 jA 1 [.int IntKind.u8 a1]) λx3=>sh (nn a0) λx4=>sN (x4.plus 1) [aA x3] λx5=>AI Value.nilIface
abbrev ag0 (n:Nat):dh:=eN 81 [wV,.one (.int .u8)] [sH] (aL n)
def vZ (n:Nat):aC TZp (ag0 n):=aR Tryz.f81 (hT:=.m1 (K8 n))
def jT (n:Nat)(a0:θ)(a1:ζ):M (Int×ξ):=sh (kT n a0) λx0=>sh (nn a0) λx1=>lS x1 1 λx2=>sh (app false x2 1 jA a1.size (cB a1)) λx3=>sh (nn a0) λx4=>sN (x4.plus 1) [aA x3] λx5=>AI ((↑a1.size:Int),Value.nilIface)
abbrev ag1 (n:Nat):dh:=eN 80 [wV,pF] [au,sH] (jT n)
def uQ (n:Nat):aC TZp (ag1 n):=aR Tryz.f80 (hT:=.m1 (K8 n))
def wq (n:Nat)(x:ξ)(a0:Int):M ζ:=if nG yg x then sh (mr [aw] x) λ(c:Addr)=>AL n a0 c else if nG yh x then sh (mr [aw,aw,aw] x) λ(c:Addr×Addr×Addr)=>AM n a0 c.1 c.2.1 c.2.2 else AS
def Cb:uv (ξ->Addr->μ->Sl->Sl->Int->Int->M Unit):=λG n a0 a1 a2 a3 a4 a5 a6=>if decide (a6<a5) then iX a4 a6 1 λx0=>eI x0 λx1=>sh (wq n a0 x1) λx2=>sh (vx vD (Ty.one li) 0 a2 (Value.string x2)) λ(x3:Bool×Int)=>if !x3.1 then sh (DQ a2) λx4=>sh (DP vD a2 (Value.string x2) (vi (↑x4:Int))) λx5=>sh (vx vD (Ty.one li) 0 a2 (Value.string x2)) λ(x6:Bool×Int)=>iX a3 x1 1 λx7=>sN x7 [vi x6.2] λx8=>G a0 a1 a2 a3 a4 a5 (i64.wrap (a6+1)) else sh (vx vD (Ty.one li) 0 a2 (Value.string x2)) λ(x4:Bool×Int)=>iX a3 x1 1 λx5=>sN x5 [vi x4.2] λx6=>G a0 a1 a2 a3 a4 a5 (i64.wrap (a6+1)) else AI ()
def xC:=lp Cb
def v7 (n:Nat)(a0:ξ)(a1 a2 a3:Addr):M Int:=sh (Bs vD) λx0=>lS a1 0 λx1=>sh (w9 none al [vi 0] (↑x1.len:Int) (↑x1.len:Int)) λx2=>eS a2 λx3=>sh (xC n a0 a3 (some x0) x2 x3 (↑x3.len:Int) 0) λx4=>eS a3 λx5=>sh (Je x5 x2 1) λx6=>sh (DQ (some x0)) λx7=>AI (↑x7:Int)
abbrev ag2 (n:Nat):dh:=eN 46 [sH,aw,aw,aw] [au] (v7 n)
abbrev ajA:=L1 (bL 87) [(0,sH),(3,aw),(6,tyM),(7,bj),(18,bj),(19,au),(20,au)] [] ([9,10,11,12]++rG 20 26) 0 xC
abbrev ajB (n:Nat):List nH:=[dN 24 [au] [pF] (wq n)]
def aal (n:Nat):ni TZp (ajB n):=.cons (bB (.cons (ke [aw] (xt n)) (.cons (ke [aw,aw,aw] (xy n)) .nil))) .nil
def W9 (n:Nat):=ajA.k TZp Tryz.f46 n (hT:=λm _=>⟨.nil,K8 m,(aal m),.nil,.nil⟩)
def rY (n:Nat):aC TZp (ag2 n):=aR Tryz.f46 (hT:=⟨.nil,K8 n,(aal n),(.cc (W9 n) .nil),.nil⟩)
abbrev C9 (n:Nat):List dh:=agU n::agV n::agW n::aab n::aac n::aad n::agX n::aae n::aaf n::aag n::agY n::agZ n::aah n::aai n::aaj n::aak n::ag0 n::ag1 n::ag2 n::C8 n
def K9 (n:Nat):cV TZp (C9 n):=.cons (Hd n) (.cons (Ds n) (.cons (J8 n) (.cons (Lz n) (.cons (FQ n) (.cons (Iq n) (.cons (Ir n) (.cons (LA n) (.cons (LC n) (.cons (Am n) (.cons (It n) (.cons (J9 n) (.cons (yP n) (.cons (Kc n) (.cons (EE n) (.cons (EF n) (.cons (vZ n) (.cons (uQ n) (.cons (rY n) (K8 n)))))))))))))))))))
def rM (n:Nat)(a0:ζ)(a1:Addr)(a2:Int):M ((Bool×Sl×Int)×Bool):=sh (im a0 (i64.wrap (a2+1)) (↑a0.size:Int)) λx0=>sh (strconv_Atoi n x0) λx1=>sh (kR x1.2) λx2=>if !x2 then sN a1 [.bool false,aE,vi 0] λx3=>sh (cT [.bool,.sl,li] a1) λ(x4:Bool×Sl×Int)=>AI ((x4.1,x4.2.1,x4.2.2),false) else sh (im a0 0 a2) λx3=>sh (strings_TrimPrefix n x3 (ofBytes [45])) λx4=>sh (dP 9) λx5=>sh (lj a0 0) λx6=>sh (vo n x4) λx7=>sh (wF n (decide ((↑x6.toNat:Int)=45)) x7 x1.1) λx8=>sh (iI (some (x5+7)) bw [.bool false,aE,vi 0]) λx9=>sN (ak x9) [.bool x8.1,aA x8.2.1,vi x8.2.2] λdZ=>sh (cT [.bool,.sl,li] (ak x9)) λ(x11:Bool×Sl×Int)=>sh (cT [.bool,.sl,li] (ak x9)) λ(x12:Bool×Sl×Int)=>sh (tX [some (ak x9)] (pJ n (x12.1,x12.2.1,x12.2.2))) λx13=>if decide (x13=0) then sh (cT [.bool,.sl,li] (ak x9)) λ(fJ:Bool×Sl×Int)=>sh (tX [some (ak x9)] (qA n (fJ.1,fJ.2.1,fJ.2.2))) λx15=>sN a1 [.bool x11.1,aA x11.2.1,vi x11.2.2] λsK=>sh (cT [.bool,.sl,li] a1) λ(x17:Bool×Sl×Int)=>AI ((x17.1,x17.2.1,x17.2.2),qk x15 a0) else sN a1 [.bool x11.1,aA x11.2.1,vi x11.2.2] λfJ=>sh (cT [.bool,.sl,li] a1) λ(x15:Bool×Sl×Int)=>AI ((x15.1,x15.2.1,x15.2.2),false)
def qB (n:Nat)(a0:ζ):M ((Bool×Sl×Int)×Bool):=nW bw [.bool false,aE,vi 0] λx0=>sh (strings_IndexByte n a0 101) λx1=>if decide (x1<0) then sN (ak x0) [.bool false,aE,vi 0] λx2=>sh (cT [.bool,.sl,li] (ak x0)) λ(x3:Bool×Sl×Int)=>AI ((x3.1,x3.2.1,x3.2.2),false) else sh (im a0 0 x1) λx2=>sh (rn n x2) λx3=>if !x3 then sN (ak x0) [.bool false,aE,vi 0] λx4=>sh (cT [.bool,.sl,li] (ak x0)) λ(x5:Bool×Sl×Int)=>AI ((x5.1,x5.2.1,x5.2.2),false) else if decide (6<i64.wrap ((↑a0.size:Int)-x1)) then sN (ak x0) [.bool false,aE,vi 0] λx4=>sh (cT [.bool,.sl,li] (ak x0)) λ(x5:Bool×Sl×Int)=>AI ((x5.1,x5.2.1,x5.2.2),false) else rM n a0 (ak x0) x1
abbrev ag3 (n:Nat):dh:=eN 67 [pF] [.agg [.bool,.sl,.int .i64],jc] (qB n)
def ajC:=dR [(8,[0,1,2,3,5,4,6,7,8]),(9,[0,1,1002,3,4,7,5,1006,8,9,10,11])]
abbrev ajD (n:Nat):List (iB ((Bool×Sl×Int)×Bool)):=[jN [0,1,1,1] [.code [1,1,1,1]] [(0,pF),(2,aw),(4,au)] (rM n)]
def Iu (n:Nat):aC TZp (ag3 n):=aR Tryz.f67 (dr:=ajC) (js:=ajD n) (hT:=.m3 (K9 n) (.cc .nil))
def vq (n:Nat)(a0 a1:Int)(a2:Nat):M (Nat):=sh (pD (decide (0<=52))) λx0=>sh (bC n (IntKind.u64.wrap (↑(BitVec.ofInt 64 (IntKind.u64.wrap (↑(BitVec.ofInt 64 a1&&&~~~BitVec.ofInt 64 9218868437227405312).toNat:Int))|||BitVec.ofInt 64 (IntKind.u64.wrap (IntKind.u64.wrap (i64.wrap (a0+1023))*2^52))).toNat:Int))) λx1=>sh (OE a2 x1) λx2=>AI x2
def DY (n a0:Nat)(a1:Int):M (Nat):=sh (xz n a0) λx0=>sh (bW n x0.1) λx1=>sh (pD (decide (0<=52))) λx2=>if decide (i64.wrap (i64.wrap (a1+x0.2)+i64.wrap (i64.wrap (↑(BitVec.ofInt 64 (i64.wrap (Int.fdiv x1 (2^52)))&&&BitVec.ofInt 64 2047).toNat:Int)-1023)) < -1075) then sh (jZ n 0 x0.1) λx3=>AI x3 else if decide (1023<i64.wrap (i64.wrap (a1+x0.2)+i64.wrap (i64.wrap (↑(BitVec.ofInt 64 (i64.wrap (Int.fdiv x1 (2^52)))&&&BitVec.ofInt 64 2047).toNat:Int)-1023))) then if Yw x0.1 0 then sh (vF n (-1)) λx3=>AI x3 else sh (vF n 1) λx3=>AI x3 else if decide (i64.wrap (i64.wrap (a1+x0.2)+i64.wrap (i64.wrap (↑(BitVec.ofInt 64 (i64.wrap (Int.fdiv x1 (2^52)))&&&BitVec.ofInt 64 2047).toNat:Int)-1023)) < -1022) then vq n (i64.wrap (i64.wrap (i64.wrap (a1+x0.2)+i64.wrap (i64.wrap (↑(BitVec.ofInt 64 (i64.wrap (Int.fdiv x1 (2^52)))&&&BitVec.ofInt 64 2047).toNat:Int)-1023))+53)) x1 4368491638549381120 else vq n (i64.wrap (i64.wrap (a1+x0.2)+i64.wrap (i64.wrap (↑(BitVec.ofInt 64 (i64.wrap (Int.fdiv x1 (2^52)))&&&BitVec.ofInt 64 2047).toNat:Int)-1023))) x1 4607182418800017408
def Kf (n a0:Nat)(a1:Int):M (Nat):=if AH a0 0 then AI a0 else sh (nZ n a0 0) λx0=>if x0 then AI a0 else sh (JY n a0) λx1=>if x1 then AI a0 else DY n a0 a1
abbrev aam (n:Nat):dh:=eN 129 [.one (.f64),au] [.one (.f64)] (Kf n)
abbrev aej (n:Nat):List (iB (Nat)):=[jN [0,1,1] [.code [1,1,1]] [(0,.one (.f64)),(1,au)] (DY n), jN (bL 3071) [.code (bL 4095)] [(1,au),(6,.one (.int .u64)),(7,.one (.f64))] (vq n)]
def LD (n:Nat):aC TZp (aam n):=aR Tryz.f129 (js:=aej n) (hT:=.m3 (K9 n) (.cc (.cc .nil)))
def cK (n a0:Nat)(a1:ζ):M ζ:=if !AH a0 a0 then AI (ofBytes [110,97,110]) else sh (nZ n a0 0) λx0=>if x0 then sh (kc a1 (ofBytes [105,110,102])) λx1=>AI x1 else if AH a0 0 then sh (kc a1 (ofBytes [48,112,48])) λx1=>AI x1 else sh (n7 n a0) λx1=>sh (rW n x1.1 10) λx2=>sh (kc a1 x2) λx3=>sh (kc x3 (ofBytes [112])) λx4=>sh (strconv_Itoa n x1.2) λx5=>sh (kc x4 x5) λx6=>AI x6
def gq (n a0:Nat):M ζ:=sh (lG n a0) λx0=>if x0 then cK n a0 (ofBytes [45]) else cK n a0 (ofBytes [])
abbrev ag4 (n:Nat):dh:=eN 97 [.one (.f64)] [pF] (gq n)
abbrev ajE (n:Nat):List (iB ζ):=[jN (bL 71) [.code (bL 103),.ar 0,.code [1,1,1,1]] [(0,.one (.f64)),(3,pF)] (cK n)]
def Kg (n:Nat):aC TZp (ag4 n):=aR Tryz.f97 (js:=ajE n) (hT:=.m3 (K9 n) (.cc .nil))
def eW:uv (Addr->(Int×Int×Int×Int×Int)->Int->M (Unit⊕Bool)):=λG n a0 a1 a2=>if decide (a2<5) then sh (MV li 5 [vi a1.1,vi a1.2.1,vi a1.2.2.1,vi a1.2.2.2.1,vi a1.2.2.2.2] a2) λx0=>sh (pD (decide (0<=i64.wrap (a2+3)/\i64.wrap (a2+3)<(↑8:Int)))) λx1=>sh (dL li ((a0.plus 1).plus ((i64.wrap (a2+3)).toNat*1))) λ(x2:Int)=>if decide (x0<x2) then AI (Sum.inr false) else G a0 (a1.1,a1.2.1,a1.2.2.1,a1.2.2.2.1,a1.2.2.2.2) (i64.wrap (a2+1)) else AI (Sum.inl ())
def fM:=lp eW
def fO (n:Nat)(a0:Addr):M Bool:=nW Wb [vi 0,vi 0,vi 0,vi 0,vi 0] λx0=>sN (ak x0) [vi 23,vi 59,vi 59,vi 23,vi 59] λx1=>sh (cT [li,li,li,li,li] (ak x0)) λ(x2:Int×Int×Int×Int×Int)=>sh (fM n a0 (x2.1,x2.2.1,x2.2.2.1,x2.2.2.2.1,x2.2.2.2.2) 0) (dW (λx3=>AI true) (λx3=>AI x3))
def iF (n:Nat)(a0:J11):M Bool:=nW bN [vi a0.1,vi a0.2.1,vi a0.2.2.1,vi a0.2.2.2.1,vi a0.2.2.2.2.1,vi a0.2.2.2.2.2.1,vi a0.2.2.2.2.2.2.1,vi a0.2.2.2.2.2.2.2.1,vi a0.2.2.2.2.2.2.2.2.1,vi a0.2.2.2.2.2.2.2.2.2.1,.int IntKind.u8 a0.2.2.2.2.2.2.2.2.2.2] λx0=>lI (ak x0) 0 λx1=>if !decide (x1=2) then sh (pD (decide (0<=0/\0<(↑8:Int)))) λx2=>sh (dL li (((ak x0).plus 1).plus 0)) λ(x3:Int)=>sh (pD (decide (0<=1/\1<(↑8:Int)))) λx4=>sh (dL li (((ak x0).plus 1).plus 1)) λ(x5:Int)=>sh (pD (decide (0<=2/\2<(↑8:Int)))) λx6=>sh (dL li (((ak x0).plus 1).plus 2)) λ(x7:Int)=>sh (Al n x3 x5 x7) λx8=>if !decide (x8.2=0) then AI false else fO n (ak x0) else fO n (ak x0)
abbrev ag5 (n:Nat):dh:=eN 71 [.agg [.int .i64,.int .i64,.int .i64,.int .i64,.int .i64,.int .i64,.int .i64,.int .i64,.int .i64,.int .i64,.int .u8]] [jc] (iF n)
abbrev ajF:=L2 (bL 87) [(1,aw),(27,.agg [.int .i64,.int .i64,.int .i64,.int .i64,.int .i64]),(28,au)] [] [(2,jc)] ([2,6,7]++rG 28 12) 0 .ret fM
abbrev ajG (n:Nat):List (iB Bool):=[jN [0,1,1] [.code [1,1,1]] [(1,aw)] (fO n)]
def Xa (n:Nat):=ajF.k TZp Tryz.f71 n (hT:=λm _=>.m1 (K9 m))
def yR (n:Nat):aC TZp (ag5 n):=aR Tryz.f71 (js:=ajG n) (hT:=⟨.nil,K9 n,.nil,(.cc (Xa n) .nil),(.cc .nil)⟩)
def iR (n:Nat)(a0 a1 a2:Int):M (ζ×Int):=sh (ED n a1) λx0=>if !decide (x0.2.2.2=0) then AI ((ofBytes []),13) else sh (pD (decide (3600≠0))) λx1=>sh (pD (decide (60≠0))) λx2=>sh (pD (decide (60≠0))) λx3=>sh (pD (decide (60≠0))) λx4=>nW bN [vi 0,vi 0,vi 0,vi 0,vi 0,vi 0,vi 0,vi 0,vi 0,vi 0,.int IntKind.u8 0] λx5=>sN (ak x5) [vi 3,vi x0.1,vi x0.2.1,vi x0.2.2.1,vi (i64.wrap (a2.tdiv 3600)),vi ((i64.wrap (a2.tdiv 60)).tmod 60),vi (a2.tmod 60),vi 0,vi 0,vi a0,.int IntKind.u8 0] λx6=>sh (cT [li,li,li,li,li,li,li,li,li,li,.int IntKind.u8] (ak x5)) λ(x7:J11)=>sh (jF n (x7.1,x7.2.1,x7.2.2.1,x7.2.2.2.1,x7.2.2.2.2.1,x7.2.2.2.2.2.1,x7.2.2.2.2.2.2.1,x7.2.2.2.2.2.2.2.1,x7.2.2.2.2.2.2.2.2.1,x7.2.2.2.2.2.2.2.2.2.1,x7.2.2.2.2.2.2.2.2.2.2)) λx8=>sh (kc x8 (ofBytes [90])) λx9=>AI (x9,0)
def qd (n:Nat)(a0 a1:Int):M (ζ×Int):=sh (pD (decide (86400≠0))) λx0=>sh (pD (decide (86400≠0))) λx1=>if decide (a0.tmod 86400<0) then iR n a1 (i64.wrap (i64.wrap (a0.tdiv 86400)-1)) (i64.wrap (a0.tmod 86400+86400)) else iR n a1 (i64.wrap (a0.tdiv 86400)) (a0.tmod 86400)
def pM (n:Nat)(a0 a1:Int):M (ζ×Int):=if decide (a1<0) then AI ((ofBytes []),2) else if decide (999999999<a1) then AI ((ofBytes []),2) else if decide (a0 < -62167219200) then AI ((ofBytes []),13) else if decide (253402300800<=a0) then AI ((ofBytes []),13) else qd n a0 a1
abbrev ag6 (n:Nat):dh:=eN 72 [au,au] [pF,au] (pM n)
abbrev ajH (n:Nat):List (iB (ζ×Int)):=[jN [0,1,1,1] [.code [1,1,1,1]] [(0,au),(1,au)] (qd n), jN (bL 95) [.code (bL 127)] [(1,au),(6,au),(7,au)] (iR n)]
def Cc (n:Nat):aC TZp (ag6 n):=aR Tryz.f72 (js:=ajH n) (hT:=.m3 (K9 n) (.cc (.cc .nil)))
def jU (n:Nat)(a0:J11):M Int:=nW bN [vi a0.1,vi a0.2.1,vi a0.2.2.1,vi a0.2.2.2.1,vi a0.2.2.2.2.1,vi a0.2.2.2.2.2.1,vi a0.2.2.2.2.2.2.1,vi a0.2.2.2.2.2.2.2.1,vi a0.2.2.2.2.2.2.2.2.1,vi a0.2.2.2.2.2.2.2.2.2.1,.int IntKind.u8 a0.2.2.2.2.2.2.2.2.2.2] λx0=>sh (pD (decide (0<=0/\0<(↑8:Int)))) λx1=>sh (dL li (((ak x0).plus 1).plus 0)) λ(x2:Int)=>sh (pD (decide (0<=1/\1<(↑8:Int)))) λx3=>sh (dL li (((ak x0).plus 1).plus 1)) λ(x4:Int)=>sh (pD (decide (0<=2/\2<(↑8:Int)))) λx5=>sh (dL li (((ak x0).plus 1).plus 2)) λ(x6:Int)=>sh (Al n x2 x4 x6) λx7=>sh (pD (decide (0<=3/\3<(↑8:Int)))) λx8=>sh (dL li (((ak x0).plus 1).plus 3)) λ(x9:Int)=>sh (pD (decide (0<=4/\4<(↑8:Int)))) λdZ=>sh (dL li (((ak x0).plus 1).plus 4)) λ(x11:Int)=>sh (pD (decide (0<=5/\5<(↑8:Int)))) λx12=>sh (dL li (((ak x0).plus 1).plus 5)) λ(x13:Int)=>sh (pD (decide (0<=6/\6<(↑8:Int)))) λfJ=>sh (dL li (((ak x0).plus 1).plus 6)) λ(x15:Int)=>sh (pD (decide (0<=7/\7<(↑8:Int)))) λsK=>sh (dL li (((ak x0).plus 1).plus 7)) λ(x17:Int)=>sh (dL (.int IntKind.u8) ((ak x0).plus 10)) λ(uy:Int)=>if decide (uy=43) then AI (i64.wrap (i64.wrap (i64.wrap (i64.wrap (i64.wrap (x7.1*86400)+i64.wrap (x9*3600))+i64.wrap (x11*60))+x13)-i64.wrap (i64.wrap (x15*3600)+i64.wrap (x17*60)))) else AI (i64.wrap (i64.wrap (i64.wrap (i64.wrap (i64.wrap (x7.1*86400)+i64.wrap (x9*3600))+i64.wrap (x11*60))+x13)+i64.wrap (i64.wrap (x15*3600)+i64.wrap (x17*60))))
abbrev ag7 (n:Nat):dh:=eN 73 [.agg [.int .i64,.int .i64,.int .i64,.int .i64,.int .i64,.int .i64,.int .i64,.int .i64,.int .i64,.int .i64,.int .u8]] [au] (jU n)
def xV (n:Nat):aC TZp (ag7 n):=aR Tryz.f73 (hT:=.m1 (K9 n))
abbrev jK:=Sl->Int->Int->Addr->Int->Int->M Unit
def bS (G:jK)(n:Nat)(a0:Sl)(a1 a2:Int)(a3:Addr)(a4 a5 a6:Int):M Unit:=iX a0 (i64.wrap (a1+a6)) 1 λx0=>iX a0 a5 1 λx1=>eI x0 λx2=>eI x1 λx3=>iX a0 a5 1 λx4=>sN x4 [vi x2] λx5=>iX a0 (i64.wrap (a1+a6)) 1 λx6=>sN x6 [vi x3] λx7=>G a0 a1 a2 a3 a4 (i64.wrap (a5+1))
def cm:uv (jK):=λG n a0 a1 a2 a3 a4 a5=>sh (pD (decide (4≠0))) λx0=>if decide (a5<=i64.wrap (i64.wrap (a1+i64.wrap (i64.wrap (a2.tdiv 4)*2))+1)) then sh (lF n (some a3)) λx1=>if decide (a2<=i64.wrap (IntKind.u64.wrap (↑(BitVec.ofInt 64 x1&&&BitVec.ofInt 64 (IntKind.u64.wrap (a4-1))).toNat:Int))) then bS G n a0 a1 a2 a3 a4 a5 (i64.wrap (i64.wrap (IntKind.u64.wrap (↑(BitVec.ofInt 64 x1&&&BitVec.ofInt 64 (IntKind.u64.wrap (a4-1))).toNat:Int))-a2)) else bS G n a0 a1 a2 a3 a4 a5 (i64.wrap (IntKind.u64.wrap (↑(BitVec.ofInt 64 x1&&&BitVec.ofInt 64 (IntKind.u64.wrap (a4-1))).toNat:Int))) else AI ()
def aX:=lp cm
def qC (n:Nat):=bS (aX n) n
def eV (n:Nat)(a0:Sl)(a1 a2:Int)(a3:ξ):M Unit:=if decide (8<=i64.wrap (a2-a1)) then nW yf [.int IntKind.u64 0] λx0=>sN (ak x0) [.int IntKind.u64 (IntKind.u64.wrap (i64.wrap (a2-a1)))] λx1=>sh (pn n (i64.wrap (a2-a1))) λx2=>sh (pD (decide (4≠0))) λx3=>sh (aX n a0 a1 (i64.wrap (a2-a1)) (ak x0) x2 (i64.wrap (i64.wrap (a1+i64.wrap (i64.wrap ((i64.wrap (a2-a1)).tdiv 4)*2))-1))) λx4=>AI () else AI ()
abbrev aan (n:Nat):dh:=eN 108 [bj,au,au,sH] [] (eV n)
abbrev aek:=L1 (bL 187) [(0,bj),(1,au),(8,au),(9,aw),(10,.one (.int .u64)),(11,au)] [] ([11,12]++rG 28 39) 0 aX
def Uu:=dR [(10,rG 0 11++[12,13,14,11]++rG 15 5)]
abbrev Sb (n:Nat):List (iB Unit):=[jN (bL 14651) [.ar 1,.code (bL 1851)] [(0,bj),(1,au),(8,au),(9,aw),(10,.one (.int .u64)),(11,au),(12,au)] (qC n)]
def Sd (n:Nat):=aek.k TZp Tryz.f108 n (dr:=Uu) (jt:=Sb) (hT:=λm _=>.m3 (K9 m) (.cc .nil))
def rZ (n:Nat):aC TZp (aan n):=aR Tryz.f108 (dr:=Uu) (hT:=.m2 (K9 n) (.cc (Sd n) .nil))
def FU:uv (ζ->Addr->Int->Int->M Unit):=λG n a0 a1 a2 a3=>if decide (a3<a2) then sh (lj a0 a3) λx0=>if decide ((↑x0.toNat:Int)=34) then sh (aL n (some a1) 92) λx1=>sh (lj a0 a3) λx2=>sh (aL n (some a1) (↑x2.toNat:Int)) λx3=>G a0 a1 a2 (i64.wrap (a3+1)) else sh (lj a0 a3) λx1=>if decide ((↑x1.toNat:Int)=92) then sh (aL n (some a1) 92) λx2=>sh (lj a0 a3) λx3=>sh (aL n (some a1) (↑x3.toNat:Int)) λx4=>G a0 a1 a2 (i64.wrap (a3+1)) else sh (lj a0 a3) λx2=>sh (aL n (some a1) (↑x2.toNat:Int)) λx3=>G a0 a1 a2 (i64.wrap (a3+1)) else AI ()
def AN:=lp FU
def FV (n:Nat)(a0:ζ):M ζ:=nW s6 [.pointer none,aE] λx0=>sh (aL n (some (ak x0)) 34) λx1=>sh (AN n a0 (ak x0) (↑a0.size:Int) 0) λx2=>sh (aL n (some (ak x0)) 34) λx3=>sh (nS n (some (ak x0))) λx4=>AI x4
abbrev aao (n:Nat):dh:=eN 116 [pF] [pF] (FV n)
abbrev ael:=L1 (bL 87) [(0,pF),(3,aw),(7,au),(8,au)] [] ([4]++rG 8 19) 0 AN
def Se (n:Nat):=ael.k TZp Tryz.f116 n (hT:=λm _=>.m1 (K9 m))
def Iv (n:Nat):aC TZp (aao n):=aR Tryz.f116 (hT:=.m2 (K9 n) (.cc (Se n) .nil))
abbrev C10 (n:Nat):List dh:=ag3 n::aam n::ag4 n::ag5 n::ag6 n::ag7 n::aan n::aao n::C9 n
def K10 (n:Nat):cV TZp (C10 n):=.cons (Iu n) (.cons (LD n) (.cons (Kg n) (.cons (yR n) (.cons (Cc n) (.cons (xV n) (.cons (rZ n) (.cons (Iv n) (K9 n))))))))
def vr (n:Nat)(a0:ζ):M Bool:=sh (qB n a0) λx0=>nW bw [.bool false,aE,vi 0] λx1=>sN (ak x1) [.bool x0.1.1,aA x0.1.2.1,vi x0.1.2.2] λx2=>AI x0.2
abbrev ag9 (n:Nat):dh:=eN 51 [pF] [jc] (vr n)
def Hf (n:Nat):aC TZp (ag9 n):=aR Tryz.f51 (hT:=.m1 (K10 n))
def EH (n a0:Nat)(a1:Int):M (Nat):=sh (Kf n a0 a1) λx0=>AI x0
abbrev aha (n:Nat):dh:=eN 96 [.one (.f64),au] [.one (.f64)] (EH n)
def LF (n:Nat):aC TZp (aha n):=aR Tryz.f96 (hT:=.m1 (K10 n))
def n9 (n:Nat)(a0:Addr):M (ζ×Int):=sh (cT [li,li,li,li,li,li,li,li,li,li,.int IntKind.u8] a0) λ(x0:J11)=>sh (iF n (x0.1,x0.2.1,x0.2.2.1,x0.2.2.2.1,x0.2.2.2.2.1,x0.2.2.2.2.2.1,x0.2.2.2.2.2.2.1,x0.2.2.2.2.2.2.2.1,x0.2.2.2.2.2.2.2.2.1,x0.2.2.2.2.2.2.2.2.2.1,x0.2.2.2.2.2.2.2.2.2.2)) λx1=>if !x1 then AI ((ofBytes []),13) else sh (cT [li,li,li,li,li,li,li,li,li,li,.int IntKind.u8] a0) λ(x2:J11)=>lI a0 9 λx3=>sh (tX [some (a0.plus 9)] (jU n (x2.1,x2.2.1,x2.2.2.1,x2.2.2.2.1,x2.2.2.2.2.1,x2.2.2.2.2.2.1,x2.2.2.2.2.2.2.1,x2.2.2.2.2.2.2.2.1,x2.2.2.2.2.2.2.2.2.1,x2.2.2.2.2.2.2.2.2.2.1,x2.2.2.2.2.2.2.2.2.2.2))) λx4=>sh (pM n x4 x3) λx5=>AI (x5.1,x5.2)
def oO (n:Nat)(a0:ζ):M (ζ×Int):=sh (n8 n a0) λx0=>nW bN [vi 0,vi 0,vi 0,vi 0,vi 0,vi 0,vi 0,vi 0,vi 0,vi 0,.int IntKind.u8 0] λx1=>sN (ak x1) [vi x0.1.1,vi x0.1.2.1,vi x0.1.2.2.1,vi x0.1.2.2.2.1,vi x0.1.2.2.2.2.1,vi x0.1.2.2.2.2.2.1,vi x0.1.2.2.2.2.2.2.1,vi x0.1.2.2.2.2.2.2.2.1,vi x0.1.2.2.2.2.2.2.2.2.1,vi x0.1.2.2.2.2.2.2.2.2.2.1,.int IntKind.u8 x0.1.2.2.2.2.2.2.2.2.2.2] λx2=>if !x0.2 then AI ((ofBytes []),3) else sh (dL (.int IntKind.u8) ((ak x1).plus 10)) λ(x3:Int)=>if decide (x3=0) then AI ((ofBytes []),3) else n9 n (ak x1)
abbrev ahb (n:Nat):dh:=eN 54 [pF] [pF,au] (oO n)
def ajI:=dR [(6,[2,0,3,4001]++rG 4 5)]
abbrev ajJ (n:Nat):List (iB (ζ×Int)):=[jN [0,0,1,1,1] [.code [1,0,1,1,1],.code [1,1,1,1]] [(4,aw)] (n9 n)]
def EI (n:Nat):aC TZp (ahb n):=aR Tryz.f54 (dr:=ajI) (js:=ajJ n) (hT:=.m3 (K10 n) (.cc .nil))
def vt (n:Nat)(a0:ζ):M (ζ×Int):=sh (n8 n a0) λx0=>nW bN [vi 0,vi 0,vi 0,vi 0,vi 0,vi 0,vi 0,vi 0,vi 0,vi 0,.int IntKind.u8 0] λx1=>sN (ak x1) [vi x0.1.1,vi x0.1.2.1,vi x0.1.2.2.1,vi x0.1.2.2.2.1,vi x0.1.2.2.2.2.1,vi x0.1.2.2.2.2.2.1,vi x0.1.2.2.2.2.2.2.1,vi x0.1.2.2.2.2.2.2.2.1,vi x0.1.2.2.2.2.2.2.2.2.1,vi x0.1.2.2.2.2.2.2.2.2.2.1,.int IntKind.u8 x0.1.2.2.2.2.2.2.2.2.2.2] λx2=>if !x0.2 then AI ((ofBytes []),3) else sh (dL (.int IntKind.u8) ((ak x1).plus 10)) λ(x3:Int)=>if !decide (x3=0) then AI ((ofBytes []),3) else sh (cT [li,li,li,li,li,li,li,li,li,li,.int IntKind.u8] (ak x1)) λ(x4:J11)=>sh (iF n (x4.1,x4.2.1,x4.2.2.1,x4.2.2.2.1,x4.2.2.2.2.1,x4.2.2.2.2.2.1,x4.2.2.2.2.2.2.1,x4.2.2.2.2.2.2.2.1,x4.2.2.2.2.2.2.2.2.1,x4.2.2.2.2.2.2.2.2.2.1,x4.2.2.2.2.2.2.2.2.2.2)) λx5=>if !x5 then AI ((ofBytes []),13) else sh (cT [li,li,li,li,li,li,li,li,li,li,.int IntKind.u8] (ak x1)) λ(x6:J11)=>sh (jF n (x6.1,x6.2.1,x6.2.2.1,x6.2.2.2.1,x6.2.2.2.2.1,x6.2.2.2.2.2.1,x6.2.2.2.2.2.2.1,x6.2.2.2.2.2.2.2.1,x6.2.2.2.2.2.2.2.2.1,x6.2.2.2.2.2.2.2.2.2.1,x6.2.2.2.2.2.2.2.2.2.2)) λx7=>AI (x7,0)
abbrev ahc (n:Nat):dh:=eN 74 [pF] [pF,au] (vt n)
def Hg (n:Nat):aC TZp (ahc n):=aR Tryz.f74 (hT:=.m1 (K10 n))
def yr (n:Nat)(a0 a1:ζ):M Int:=sh (qB n a0) λx0=>nW bw [.bool false,aE,vi 0] λx1=>sN (ak x1) [.bool x0.1.1,aA x0.1.2.1,vi x0.1.2.2] λx2=>sh (qB n a1) λx3=>nW bw [.bool false,aE,vi 0] λx4=>sN (ak x4) [.bool x3.1.1,aA x3.1.2.1,vi x3.1.2.2] λx5=>if !x0.2 then AI 0 else if !x3.2 then AI 0 else sh (cT [.bool,.sl,li] (ak x1)) λ(x6:Bool×Sl×Int)=>sh (cT [.bool,.sl,li] (ak x4)) λ(x7:Bool×Sl×Int)=>sh (rL n (x6.1,x6.2.1,x6.2.2) (x7.1,x7.2.1,x7.2.2)) λx8=>AI x8
abbrev aap (n:Nat):dh:=eN 140 [pF,pF] [au] (yr n)
def Kh (n:Nat):aC TZp (aap n):=aR Tryz.f140 (hT:=.m1 (K10 n))
def Iw:uv (θ->Sl->Int->Int->M Sl):=λG n a0 a1 a2 a3=>if decide (a3<a2) then sh (nn a0) λx0=>sh (nn a0) λx1=>lT x0 1 λx2=>sh (lj x2 a3) λx3=>sh (pD (decide (0<=4))) λx4=>sh (lj (ofBytes [48,49,50,51,52,53,54,55,56,57,97,98,99,100,101,102]) ((↑x3.toNat:Int).fdiv (2^4))) λx5=>lT x1 1 λx6=>sh (lj x6 a3) λx7=>sh (lj (ofBytes [48,49,50,51,52,53,54,55,56,57,97,98,99,100,101,102]) (IntKind.u8.wrap (↑(BitVec.ofInt 8 (↑x7.toNat:Int)&&&BitVec.ofInt 8 15).toNat:Int))) λx8=>sh (app true a1 1 jA 2 [.int IntKind.u8 (↑x5.toNat:Int),.int IntKind.u8 (↑x8.toNat:Int)]) λx9=>G a0 x9 a2 (i64.wrap (a3+1)) else AI a1
def DZ:=lp Iw
def EJ (n:Nat)(a0:θ):M ζ:=sh (nn a0) λx0=>lI x0 0 λx1=>if decide (x1=0) then AI (ofBytes [110,117,108,108]) else if decide (x1=5) then sh (nn a0) λx2=>lT x2 1 λx3=>sh (FV n x3) λx4=>AI x4 else if decide (x1=6) then nW jA [.int IntKind.u8 35] λx2=>sh (nn a0) λx3=>lT x3 1 λx4=>sh (DZ n a0 { a:=some (ak x2),len:=1,cap:=2 } (↑(ByteArray.size x4):Int) 0) λx5=>sh (strOf x5) λx6=>AI x6 else if decide (x1=7) then sh (nn a0) λx2=>lT x2 1 λx3=>sh (kc (ofBytes [64]) x3) λx4=>AI x4 else if decide (x1=8) then sh (nn a0) λx2=>lT x2 1 λx3=>sh (kc (ofBytes [37]) x3) λx4=>AI x4 else sh (nn a0) λx2=>lT x2 1 λx3=>AI x3
abbrev ahd (n:Nat):dh:=eN 79 [wV] [pF] (EJ n)
abbrev ajK:=L1 (bL 22005) [(0,wV),(3,bj),(25,au),(26,au)] [(3,bj)] ([3,4]++rG 26 23) 1 DZ
def aaq:=dR [(11,[0,1,2,3,5,9,10,11,13,4,6,7,8,12]++rG 14 6)]
def Xb (n:Nat):=ajK.k TZp Tryz.f79 n (dr:=aaq) (hT:=λm _=>.m1 (K10 m))
def LG (n:Nat):aC TZp (ahd n):=aR Tryz.f79 (dr:=aaq) (hT:=.m2 (K10 n) (.cc (Xb n) .nil))
abbrev C11 (n:Nat):List dh:=ag9 n::aha n::ahb n::ahc n::aap n::ahd n::C10 n
def K11 (n:Nat):cV TZp (C11 n):=.cons (Hf n) (.cons (LF n) (.cons (EI n) (.cons (Hg n) (.cons (Kh n) (.cons (LG n) (K10 n))))))
def fS (n:Nat)(a0:ζ)(a1:Bool)(a2 a3:Int):M (Nat×Bool):=sh (EH n (Yx a2) a3) λx0=>sh (gq n x0) λx1=>if !qk x1 a0 then AI (0,false) else if a1 then sh (jZ n x0 13830554455654793216) λx2=>AI (x2,true) else AI (x0,true)
def jV (n:Nat)(a0:ζ):M (Nat×Bool):=sh (strings_CutPrefix n a0 (ofBytes [45])) λx0=>if qk a0 (ofBytes [110,97,110]) then sh (J4 n) λx1=>AI (x1,true) else if qk x0.1 (ofBytes [105,110,102]) then sh (vF n 1) λx1=>if x0.2 then sh (jZ n x1 13830554455654793216) λx2=>AI (x2,true) else AI (x1,true) else if qk x0.1 (ofBytes [48,112,48]) then if x0.2 then sh (jZ n 0 13830554455654793216) λx1=>AI (x1,true) else AI (0,true) else sh (strings_Cut n x0.1 (ofBytes [112])) λx1=>sh (fF n x1.1 10 64) λx2=>sh (strconv_Atoi n x1.2.1) λx3=>if !x1.2.2 then AI (0,false) else sh (kR x2.2) λx4=>if !x4 then AI (0,false) else sh (kR x3.2) λx5=>if !x5 then AI (0,false) else sh (pW n x2.1 x3.1) λx6=>if !x6 then AI (0,false) else fS n x0.1 x0.2 x2.1 x3.1
abbrev ahe (n:Nat):dh:=eN 68 [pF] [.one (.f64),jc] (jV n)
abbrev ajL (n:Nat):List (iB (Nat×Bool)):=[jN (bL 98279) [.code (bL 131047),.ar 0,.code [1,1,1,1]] [(4,pF),(5,jc),(10,.one (.int .u64)),(12,au)] (fS n)]
def Ix (n:Nat):aC TZp (ahe n):=aR Tryz.f68 (js:=ajL n) (hT:=.m3 (K11 n) (.cc .nil))
def rq (n:Nat)(a0:ζ):M Int:=sh (vt n a0) λx0=>if !decide (x0.2=0) then AI 0 else if !qk x0.1 a0 then AI 0 else sh (n8 n a0) λx1=>nW bN [vi 0,vi 0,vi 0,vi 0,vi 0,vi 0,vi 0,vi 0,vi 0,vi 0,.int IntKind.u8 0] λx2=>sN (ak x2) [vi x1.1.1,vi x1.1.2.1,vi x1.1.2.2.1,vi x1.1.2.2.2.1,vi x1.1.2.2.2.2.1,vi x1.1.2.2.2.2.2.1,vi x1.1.2.2.2.2.2.2.1,vi x1.1.2.2.2.2.2.2.2.1,vi x1.1.2.2.2.2.2.2.2.2.1,vi x1.1.2.2.2.2.2.2.2.2.2.1,.int IntKind.u8 x1.1.2.2.2.2.2.2.2.2.2.2] λx3=>lI (ak x2) 0 λx4=>AI x4
abbrev ahf (n:Nat):dh:=eN 55 [pF] [au] (rq n)
def Hh (n:Nat):aC TZp (ahf n):=aR Tryz.f55 (hT:=.m1 (K11 n))
structure bh where
 fI:θ->Int->Sl->θ->Int->Sl->Int->Int->M Int
 fZ:θ->Int->Sl->M Int
def zo (G:bh)(n:Nat)(a0:θ)(a1:Int)(a2:Sl)(a3:θ)(a4:Int)(a5:Sl)(a6 a7:Int):M Int:=if decide (a7<a6) then iX a5 a7 1 λx0=>eI x0 λx1=>sh (nn a3) λx2=>lI x2 0 λx3=>if decide (x3=10) then sh (nn a3) λx4=>lS x4 3 λx5=>iX x5 a7 1 λx6=>eI x6 λx7=>sh (G.fZ a0 x7 a2) λx8=>sh (G.fZ a0 x1 a2) λx9=>G.fI a0 a1 a2 a3 (i64.wrap (i64.wrap (a4+i64.wrap (1+x8))+x9)) a5 a6 (i64.wrap (a7+1)) else sh (G.fZ a0 x1 a2) λx4=>G.fI a0 a1 a2 a3 (i64.wrap (a4+x4)) a5 a6 (i64.wrap (a7+1)) else AI a4
def gr (G:bh)(n:Nat)(a0:θ)(a1:Int)(a2:Sl)(a3:θ)(a4:Int):M Int:=sh (nn a3) λx0=>lS x0 4 λx1=>sh (G.fI a0 a1 a2 a3 a4 x1 (↑x1.len:Int) 0) λx2=>iX a2 a1 1 λx3=>sN x3 [vi (if 65537<x2 then 65537 else x2)] λx4=>iX a2 a1 1 λx5=>eI x5 λx6=>AI x6
def sD (G:bh)(n:Nat)(a0:θ)(a1:Int)(a2:Sl)(a3:θ)(a4:Int):M Int:=if decide (a4=11) then sh (nn a3) λx0=>lT x0 1 λx1=>gr G n a0 a1 a2 a3 (i64.wrap (3+(↑(ByteArray.size x1):Int))) else sh (EJ n a3) λx0=>gr G n a0 a1 a2 a3 (↑(ByteArray.size x0):Int)
def Cd (G:bh)(n:Nat)(a0:θ)(a1:Int)(a2:Sl):M Int:=iX a2 a1 1 λx0=>eI x0 λx1=>if decide (0<=x1) then iX a2 a1 1 λx2=>eI x2 λx3=>AI x3 else sh (nn a0) λx2=>lS (x2.plus 0) 0 λx3=>iX x3 a1 5 λx4=>sh (nn (some x4)) λx5=>lI x5 0 λx6=>if decide (x6=9) then sh (nn (some x4)) λx7=>lS x7 4 λx8=>gr G n a0 a1 a2 (some x4) (i64.wrap (2+if 0<i64.wrap ((↑x8.len:Int)-1) then i64.wrap ((↑x8.len:Int)-1) else 0)) else if decide (x6=10) then sh (nn (some x4)) λx7=>lS x7 4 λx8=>gr G n a0 a1 a2 (some x4) (i64.wrap (2+if 0<i64.wrap ((↑x8.len:Int)-1) then i64.wrap ((↑x8.len:Int)-1) else 0)) else sD G n a0 a1 a2 (some x4) x6
def bh.at:Nat->bh|0=>⟨λ_ _ _ _ _ _ _ _=>AS,λ_ _ _=>AS⟩|n+1=>⟨zo (bh.at n) n,Cd (bh.at n) n⟩
def fI (n:Nat):=(bh.at n).fI
def fZ (n:Nat):=(bh.at n).fZ
def Bh (n:Nat):=sD (bh.at n) n
def Bi (n:Nat):=gr (bh.at n) n
abbrev aar (n:Nat):dh:=eN 63 [wV,au,bj] [au] (fZ n)
abbrev ajM:=L1 (bL 351) [(0,wV),(1,au),(2,bj),(7,wV),(8,au),(56,bj),(57,au),(58,au)] [(8,au)] ([8,9,10]++rG 58 30) 1 fI
abbrev C12 (n:Nat):List dh:=aar n::C11 n
abbrev ajN (n:Nat):List (iB Int):=[jN (bL 1455) [.code (bL 1967),.ar 0,.code [1,1,1,1,1]] [(0,wV),(1,au),(2,bj),(7,wV),(30,au)] (Bh n), jN (bL 159) [.code (bL 223),.code (bL 127)] [(0,wV),(1,au),(2,bj),(7,wV),(8,au)] (Bi n)]
def iS (n:Nat):Prop:=aC TZp (aar n)
def aas (n:Nat)(H:iS n):cV TZp (C12 n):=.cons H (K11 n)
def Xc (n:Nat)(H:Hy iS n):=ajM.k TZp Tryz.f63 n (hT:=λm hm=>.m1 (aas m ((H.d hm).s)))
def xD (n:Nat)(H:Hy iS n):aC TZp (aar (n+1)):=aR Tryz.f63 (js:=ajN n) (hT:=⟨.nil,aas n (H.s),.nil,(.cc (Xc n H) .nil),(.cc (.cc .nil))⟩)
def yS (n:Nat):iS n:=FF (Q:=iS) (eE Tryz.f63) xD n
def K12 (n:Nat):cV TZp (C12 n):=aas n (yS n)
abbrev C13 (n:Nat):List dh:=ahe n::ahf n::C12 n
def K13 (n:Nat):cV TZp (C13 n):=.cons (Ix n) (.cons (Hh n) (K12 n))
def od (n:Nat)(a0:ζ):M Bool:=sh (jV n a0) λx0=>AI x0.2
abbrev ahg (n:Nat):dh:=eN 52 [pF] [jc] (od n)
def Iy (n:Nat):aC TZp (ahg n):=aR Tryz.f52 (hT:=.m1 (K13 n))
def yT (n a0 a1:Nat):M (Int×Bool):=if Yw a0 a1 then AI (-1,true) else if Q9 a0 a1 then AI (1,true) else AI (0,true)
def Ao (n:Nat)(a0 a1:ζ):M (Int×Bool):=sh (jV n a0) λx0=>sh (jV n a1) λx1=>if !x0.2 then AI (0,false) else if !x1.2 then AI (0,false) else if !AH x0.1 x0.1 then AI (0,false) else if !AH x1.1 x1.1 then AI (0,false) else yT n x0.1 x1.1
abbrev aat (n:Nat):dh:=eN 141 [pF,pF] [au,jc] (Ao n)
abbrev aem (n:Nat):List (iB (Int×Bool)):=[jN (bL 359) [.code (bL 487),.ar 0,.code [1,1,1,1]] [(6,.one (.f64)),(8,.one (.f64))] (yT n)]
def LH (n:Nat):aC TZp (aat n):=aR Tryz.f141 (js:=aem n) (hT:=.m3 (K13 n) (.cc .nil))
abbrev C14 (n:Nat):List dh:=ahg n::aat n::C13 n
def K14 (n:Nat):cV TZp (C14 n):=.cons (Iy n) (.cons (LH n) (K13 n))
def wJ (n:Nat)(a0:Int)(a1:ζ):M Bool:=if decide (a0=0) then AI (qk a1 (ofBytes [])) else if decide (a0=1) then if qk a1 (ofBytes [116,114,117,101]) then AI true else AI (qk a1 (ofBytes [102,97,108,115,101])) else if decide (a0=2) then sh (rn n a1) λx0=>AI x0 else if decide (a0=3) then sh (vr n a1) λx0=>AI x0 else if decide (a0=4) then sh (od n a1) λx0=>AI x0 else if decide (a0=5) then sh (rD n a1) λx0=>AI (decide (x0.2=0)) else if decide (a0=6) then AI true else if decide (a0=7) then sh (oO n a1) λx0=>if decide (x0.2=0) then AI (qk x0.1 a1) else AI false else if decide (a0=8) then sh (rq n a1) λx0=>AI !decide (x0=0) else AI false
abbrev ahh (n:Nat):dh:=eN 33 [au,pF] [jc] (wJ n)
def Iz (n:Nat):aC TZp (ahh n):=aR Tryz.f33 (hT:=.m1 (K14 n))
def wK (n:Nat)(a0:Int)(a1 a2:ζ):M Int:=if qk a1 a2 then AI 0 else if decide (a0=2) then sh (yq n a1 a2) λx0=>AI x0 else if decide (a0=3) then sh (yr n a1 a2) λx0=>AI x0 else if decide (a0=4) then if qk a1 (ofBytes [110,97,110]) then AI 1 else if qk a2 (ofBytes [110,97,110]) then AI (-1) else sh (Ao n a1 a2) λx0=>if !decide (x0.1=0) then AI x0.1 else if qk a1 (ofBytes [45,48,112,48]) then AI (-1) else AI 1 else sh (strings_Compare n a1 a2) λx0=>AI x0
abbrev aau (n:Nat):dh:=eN 105 [au,pF,pF] [au] (wK n)
def IA (n:Nat):aC TZp (aau n):=aR Tryz.f105 (hT:=.m1 (K14 n))
abbrev C15 (n:Nat):List dh:=ahh n::aau n::C14 n
def K15 (n:Nat):cV TZp (C15 n):=.cons (Iz n) (.cons (IA n) (K14 n))
def Ap (n:Nat)(a0:Int×ζ×Bool×Sl×Sl):M Bool:=nW av [vi a0.1,.string a0.2.1,.bool a0.2.2.1,aA a0.2.2.2.1,aA a0.2.2.2.2] λx0=>lI (ak x0) 0 λx1=>if decide (x1=9) then lT (ak x0) 1 λx2=>if qk x2 (ofBytes []) then lB (ak x0) 2 λx3=>if !x3 then lS (ak x0) 3 λx4=>AI (decide ((↑x4.len:Int)=0)) else AI false else AI false else if decide (x1=10) then lT (ak x0) 1 λx2=>if qk x2 (ofBytes []) then lS (ak x0) 3 λx3=>lS (ak x0) 4 λx4=>AI (decide ((↑x3.len:Int)=(↑x4.len:Int))) else AI false else if decide (x1=11) then lT (ak x0) 1 λx2=>sh (Ac n x2) λx3=>if x3 then lB (ak x0) 2 λx4=>if !x4 then lS (ak x0) 3 λx5=>if decide ((↑x5.len:Int)=0) then lS (ak x0) 4 λx6=>AI (decide ((↑x6.len:Int)=1)) else AI false else AI false else AI false else lB (ak x0) 2 λx2=>if !x2 then lS (ak x0) 3 λx3=>if decide ((↑x3.len:Int)=0) then lS (ak x0) 4 λx4=>if decide ((↑x4.len:Int)=0) then lI (ak x0) 0 λx5=>lT (ak x0) 1 λx6=>sh (wJ n x5 x6) λx7=>AI x7 else AI false else AI false else AI false
abbrev ahi (n:Nat):dh:=eN 17 [.agg [.int .i64,.str,.bool,.sl,.sl]] [jc] (Ap n)
def LJ (n:Nat):aC TZp (ahi n):=aR Tryz.f17 (hT:=.m1 (K15 n))
structure af where
 fu:Int->Addr->Addr->Sl->Int->Int->M Unit
 cS:θ->Int->M Sl
 gJ:θ->Int->θ->Int->μ->M Int
 dU:Sl->ξ->M Unit
 kM:Int->Int->Addr->Addr->M Int
 ij:θ->θ->μ->θ->θ->Sl->Sl->Int->Int->M (Unit⊕Int)
 oh:θ->Int->θ->Int->μ->M Int
 bE:Sl->Int->Int->Int->ξ->Bool->Bool->M Unit
 de:Sl->Int->Int->Int->ξ->M Unit
 bQ:Sl->Int->Int->ξ->Int->Int->M Unit
 bR:Sl->Int->Int->ξ->Int->M Unit
 dK:Sl->Int->Int->ξ->M Unit
 cN:Sl->ξ->Int->Int->Int->Int->M Unit
 cO:Sl->ξ->Int->Int->Int->M Unit
 eZ:Sl->Int->Int->ξ->M Unit
 ef:Sl->Int->Int->ξ->M (Int×Int)
 bF:Sl->Int->Int->ξ->Int->Int->Int->M Unit
 bG:Sl->Int->Int->ξ->Int->Int->Int->M Unit
 aS:Sl->Int->Int->ξ->Int->Int->M Int
 aT:Sl->Int->Int->ξ->Int->Int->M (Unit⊕Bool)
 bV:Sl->Int->Int->ξ->M Bool
 bH:Sl->Int->ξ->Int->Int->M Int
 bI:Sl->Int->ξ->Int->Int->M Int
 bJ:Sl->Int->ξ->Int->Int->M Int
 dz:Sl->Int->Int->Int->ξ->M Int
 cF:Sl->Int->ξ->Int->Int->M Int
 cG:Sl->Int->ξ->Int->Int->M Int
 cH:Sl->Int->ξ->Int->Int->M Int
 cI:Sl->Int->ξ->Int->Int->M Int
 cJ:Sl->Int->ξ->Int->Int->M Int
 eQ:Sl->Int->Int->Int->ξ->M (Int×Bool)
 cP:Sl->Int->Int->ξ->Int->M (Unit⊕Unit)
 dV:Sl->Int->Int->Int->ξ->M Unit
 b7:Sl->Int->θ->ξ->M Int
 dE:Sl->Int->Int->Int->θ->ξ->M Int
 dG:Sl->Int->Int->θ->ξ->M (Int×Int)
def ay (G:af)(n:Nat)(x:ξ)(a0 a1:Int):M Int:=if nG jg x then sh (mr [aw,aw] x) λ(c:Addr×Addr)=>G.kM a0 a1 c.1 c.2 else AS
abbrev jj:=ay
abbrev gu:=ay
abbrev gw:=ay
abbrev fT:=ay
abbrev iT:=ay
abbrev iU:=ay
abbrev kP:=ay
abbrev kQ:=ay
abbrev kF:=ay
abbrev kG:=ay
abbrev lK:=ay
abbrev lL:=ay
abbrev mV:=ay
def mh (G:af)(n:Nat)(a0:Int)(a1 a2:Addr)(a3:Sl)(a4 a5:Int):M Unit:=if decide (a5<a4) then iX a3 a5 1 λx0=>sN x0 [vi a5] λx1=>G.fu a0 a1 a2 a3 a4 (i64.wrap (a5+1)) else AI ()
def mi (G:af)(n:Nat)(a0:Int)(a1 a2:Addr)(a3:Sl):M Sl:=sh (G.dU a3 (Value.func (Fn.func jg) #[] #[.pointer (some a1),.pointer (some a2)])) λx0=>sh (dL .ptr a1) λ(x1:θ)=>sh (nn x1) λx2=>lS x2 2 λx3=>iX x3 a0 1 λx4=>sN x4 [aA a3] λx5=>AI a3
def po (G:af)(n:Nat)(a0:θ)(a1:Int):M Sl:=nW bA [.pointer a0] λx0=>sh (dL .ptr (ak x0)) λ(x1:θ)=>sh (nn x1) λx2=>lS (x2.plus 0) 0 λx3=>iX x3 a1 5 λx4=>nW fh [.pointer none] λx5=>sN (ak x5) [.pointer (some x4)] λx6=>sh (dL .ptr (ak x0)) λ(x7:θ)=>sh (nn x7) λx8=>lS x8 2 λx9=>iX x9 a1 1 λdZ=>eS dZ λx11=>if !x11.a.isNone then sh (dL .ptr (ak x0)) λ(x12:θ)=>sh (nn x12) λx13=>lS x13 2 λfJ=>iX fJ a1 1 λx15=>eS x15 λsK=>AI sK else sh (dL .ptr (ak x5)) λ(x12:θ)=>sh (nn x12) λx13=>lS x13 4 λfJ=>sh (w9 none al [vi 0] (↑fJ.len:Int) (↑fJ.len:Int)) λx15=>sh (G.fu a1 (ak x0) (ak x5) x15 (↑x15.len:Int) 0) λsK=>sh (dL .ptr (ak x5)) λ(x17:θ)=>sh (nn x17) λuy=>lI uy 0 λx19=>if decide (x19=10) then sh (dL .ptr (ak x5)) λ(x20:θ)=>sh (nn x20) λx21=>lB x21 2 λx22=>if !x22 then mi G n a1 (ak x0) (ak x5) x15 else sh (dL .ptr (ak x0)) λ(x23:θ)=>sh (nn x23) λx24=>lS x24 2 λx25=>iX x25 a1 1 λx26=>sN x26 [aA x15] λx27=>AI x15 else sh (dL .ptr (ak x0)) λ(x20:θ)=>sh (nn x20) λx21=>lS x21 2 λx22=>iX x22 a1 1 λx23=>sN x23 [aA x15] λx24=>AI x15
def oP (G:af)(n:Nat)(a0:θ)(a1:Int)(a2:θ)(a3:Int)(a4:μ):M Int:=sh (vx wX (Ty.one li) 0 a4 (Value.agg #[vi a1,vi a3])) λ(x0:Bool×Int)=>if x0.1 then AI x0.2 else sh (G.oh a0 a1 a2 a3 a4) λx1=>if !a4.isNone then sh (DP wX a4 (Value.agg #[vi a1,vi a3]) (vi x1)) λx2=>AI x1 else AI x1
def kU (G:af)(n:Nat)(a0:Sl)(a1:ξ):M Unit:=sh (rm n (IntKind.u64.wrap (↑a0.len:Int))) λx0=>sh (G.de a0 0 (↑a0.len:Int) x0 a1) λx1=>AI ()
def mW (G:af)(n:Nat)(a0 a1:Int)(a2 a3:Addr):M Int:=sh (dL .ptr a2) λ(x0:θ)=>sh (dL .ptr a3) λ(x1:θ)=>sh (nn x1) λx2=>lS x2 3 λx3=>iX x3 a0 1 λx4=>eI x4 λx5=>sh (dL .ptr a2) λ(x6:θ)=>sh (dL .ptr a3) λ(x7:θ)=>sh (nn x7) λx8=>lS x8 3 λx9=>iX x9 a1 1 λdZ=>eI dZ λx11=>sh (G.gJ x0 x5 x6 x11 none) λx12=>AI x12
def eY (G:af)(n:Nat)(a0 a1:θ)(a2:μ)(a3 a4:θ)(a5 a6:Sl)(a7 a8 a9:Int):M (Unit⊕Int):=sh (nn a3) λx0=>iX a5 a7 1 λx1=>sh (nn a4) λx2=>iX a6 a7 1 λx3=>lS x0 4 λx4=>eI x1 λx5=>iX x4 x5 1 λx6=>eI x6 λx7=>lS x2 4 λx8=>eI x3 λx9=>iX x8 x9 1 λdZ=>eI dZ λx11=>sh (G.gJ a0 x7 a1 x11 a2) λx12=>if !decide (x12=0) then AI (Sum.inr x12) else G.ij a0 a1 a2 a3 a4 a5 a6 a8 (i64.wrap (a9+1))
def lM (G:af)(n:Nat)(a0 a1:θ)(a2:μ)(a3 a4:θ)(a5 a6:Sl)(a7 a8:Int):M (Unit⊕Int):=if decide (a8<a7) then sh (nn a3) λx0=>lI x0 0 λx1=>if decide (x1=10) then sh (nn a3) λx2=>iX a5 a8 1 λx3=>sh (nn a4) λx4=>iX a6 a8 1 λx5=>lS x2 3 λx6=>eI x3 λx7=>iX x6 x7 1 λx8=>eI x8 λx9=>lS x4 3 λdZ=>eI x5 λx11=>iX dZ x11 1 λx12=>eI x12 λx13=>sh (G.gJ a0 x9 a1 x13 none) λfJ=>if !decide (fJ=0) then AI (Sum.inr fJ) else eY G n a0 a1 a2 a3 a4 a5 a6 a8 a7 a8 else eY G n a0 a1 a2 a3 a4 a5 a6 a8 a7 a8 else AI (Sum.inl ())
def qe (G:af)(n:Nat)(a0:θ)(a1:Int)(a2:θ)(a3:Int)(a4:μ):M Int:=sh (nn a0) λx0=>sh (nn a2) λx1=>lS (x0.plus 0) 0 λx2=>iX x2 a1 5 λx3=>lS (x1.plus 0) 0 λx4=>iX x4 a3 5 λx5=>sh (nn (some x3)) λx6=>sh (nn (some x5)) λx7=>lI x6 0 λx8=>lI x7 0 λx9=>if decide (x8<x9) then AI (-1) else sh (nn (some x3)) λdZ=>sh (nn (some x5)) λx11=>lI dZ 0 λx12=>lI x11 0 λx13=>if decide (x13<x12) then AI 1 else sh (nn (some x3)) λfJ=>sh (nn (some x5)) λx15=>lB fJ 2 λsK=>lB x15 2 λx17=>if !sK==x17 then sh (nn (some x5)) λuy=>lB uy 2 λx19=>if x19 then AI (-1) else AI 1 else sh (nn (some x3)) λuy=>sh (nn (some x3)) λx19=>sh (nn (some x5)) λx20=>lI uy 0 λx21=>lT x19 1 λx22=>lT x20 1 λx23=>sh (wK n x21 x22 x23) λx24=>if !decide (x24=0) then AI x24 else sh (G.cS a0 a1) λx25=>sh (G.cS a2 a3) λx26=>sh (G.ij a0 a2 a4 (some x3) (some x5) x25 x26 (if (↑x26.len:Int)<(↑x25.len:Int) then (↑x26.len:Int) else (↑x25.len:Int)) 0) (dW (λx27=>if decide ((↑x25.len:Int)<(↑x26.len:Int)) then AI (-1) else if decide ((↑x26.len:Int)<(↑x25.len:Int)) then AI 1 else AI 0) (λx27=>AI x27))
def cX (G:af)(n:Nat)(a0:Sl)(a1 a2 a3:Int)(a4:ξ)(a5 a6:Bool)(a7 a8:Int):M Unit:=sh (G.eQ a0 a1 a2 a8 a4) λx0=>sh (pD (decide (8≠0))) λx1=>if decide (i64.wrap (x0.1-a1)<i64.wrap (a2-x0.1)) then sh (G.de a0 a1 x0.1 a3 a4) λx2=>G.bE a0 (i64.wrap (x0.1+1)) a2 a3 a4 (decide (i64.wrap (a7.tdiv 8)<=i64.wrap (x0.1-a1))) x0.2 else sh (G.de a0 (i64.wrap (x0.1+1)) a2 a3 a4) λx2=>G.bE a0 a1 x0.1 a3 a4 (decide (i64.wrap (a7.tdiv 8)<=i64.wrap (a2-x0.1))) x0.2
def bg (G:af)(n:Nat)(a0:Sl)(a1 a2 a3:Int)(a4:ξ)(a5 a6:Bool)(a7 a8:Int):M Unit:=if decide (0<a1) then iX a0 (i64.wrap (a1-1)) 1 λx0=>iX a0 a8 1 λx1=>eI x0 λx2=>eI x1 λx3=>sh (ay G n a4 x2 x3) λx4=>if !decide (x4<0) then sh (G.dz a0 a1 a2 a8 a4) λx5=>G.bE a0 x5 a2 a3 a4 a5 a6 else cX G n a0 a1 a2 a3 a4 a5 a6 a7 a8 else cX G n a0 a1 a2 a3 a4 a5 a6 a7 a8
def cY (G:af)(n:Nat)(a0:Sl)(a1 a2 a3:Int)(a4:ξ)(a5 a6:Bool)(a7 a8 a9:Int):M Unit:=if a5 then if a6 then if decide (a9=1) then sh (G.bV a0 a1 a2 a4) λx0=>if x0 then AI () else bg G n a0 a1 a2 a3 a4 a5 a6 a7 a8 else bg G n a0 a1 a2 a3 a4 a5 a6 a7 a8 else bg G n a0 a1 a2 a3 a4 a5 a6 a7 a8 else bg G n a0 a1 a2 a3 a4 a5 a6 a7 a8
def cZ (G:af)(n:Nat)(a0:Sl)(a1 a2 a3:Int)(a4:ξ)(a5 a6:Bool)(a7:Int):M Unit:=sh (G.ef a0 a1 a2 a4) λx0=>if decide (x0.2=2) then sh (fq n a0 a1 a2 a4) λx1=>cY G n a0 a1 a2 a3 a4 a5 a6 a7 (i64.wrap (i64.wrap (a2-1)-i64.wrap (x0.1-a1))) 1 else cY G n a0 a1 a2 a3 a4 a5 a6 a7 x0.1 x0.2
def dS (G:af)(n:Nat)(a0:Sl)(a1 a2 a3:Int)(a4:ξ)(a5 a6:Bool):M Unit:=if decide (i64.wrap (a2-a1)<=12) then sh (G.dK a0 a1 a2 a4) λx0=>AI () else if decide (a3=0) then sh (G.eZ a0 a1 a2 a4) λx0=>AI () else if !a5 then sh (eV n a0 a1 a2 a4) λx0=>cZ G n a0 a1 a2 (i64.wrap (a3-1)) a4 a5 a6 (i64.wrap (a2-a1)) else cZ G n a0 a1 a2 a3 a4 a5 a6 (i64.wrap (a2-a1))
def eP (G:af)(n:Nat)(a0:Sl)(a1 a2 a3:Int)(a4:ξ):M Unit:=sh (G.bE a0 a1 a2 a3 a4 true true) λx0=>AI ()
def eU (G:af)(n:Nat)(a0:Sl)(a1 a2:Int)(a3:ξ)(a4 a5:Int):M Unit:=iX a0 (i64.wrap (a5-1)) 1 λx0=>iX a0 a5 1 λx1=>eI x0 λx2=>eI x1 λx3=>iX a0 a5 1 λx4=>sN x4 [vi x2] λx5=>iX a0 (i64.wrap (a5-1)) 1 λx6=>sN x6 [vi x3] λx7=>G.bQ a0 a1 a2 a3 a4 (i64.wrap (a5-1))
def cn (G:af)(n:Nat)(a0:Sl)(a1 a2:Int)(a3:ξ)(a4 a5:Int):M Unit:=if decide (a1<a5) then iX a0 a5 1 λx0=>iX a0 (i64.wrap (a5-1)) 1 λx1=>eI x0 λx2=>eI x1 λx3=>sh (jj G n a3 x2 x3) λx4=>if decide (x4<0) then eU G n a0 a1 a2 a3 a4 a5 else AI () else AI ()
def cq (G:af)(n:Nat)(a0:Sl)(a1 a2:Int)(a3:ξ)(a4:Int):M Unit:=if decide (a4<a2) then sh (G.bQ a0 a1 a2 a3 a4 a4) λx0=>G.bR a0 a1 a2 a3 (i64.wrap (a4+1)) else AI ()
def gG (G:af)(n:Nat)(a0:Sl)(a1 a2:Int)(a3:ξ):M Unit:=sh (G.bR a0 a1 a2 a3 (i64.wrap (a1+1))) λx0=>AI ()
def dH (G:af)(n:Nat)(a0:Sl)(a1:ξ)(a2 a3 a4 a5:Int):M Unit:=if decide (0<=a5) then sh (G.dV a0 a5 a4 a2 a1) λx0=>G.cN a0 a1 a2 a3 a4 (i64.wrap (a5-1)) else AI ()
def dI (G:af)(n:Nat)(a0:Sl)(a1:ξ)(a2 a3 a4:Int):M Unit:=if decide (0<=a4) then iX a0 (i64.wrap (a2+a4)) 1 λx0=>iX a0 a2 1 λx1=>eI x0 λx2=>eI x1 λx3=>iX a0 a2 1 λx4=>sN x4 [vi x2] λx5=>iX a0 (i64.wrap (a2+a4)) 1 λx6=>sN x6 [vi x3] λx7=>sh (G.dV a0 a3 a4 a2 a1) λx8=>G.cO a0 a1 a2 a3 (i64.wrap (a4-1)) else AI ()
def jv (G:af)(n:Nat)(a0:Sl)(a1 a2:Int)(a3:ξ):M Unit:=sh (pD (decide (2≠0))) λx0=>sh (G.cN a0 a3 a1 0 (i64.wrap (a2-a1)) (i64.wrap ((i64.wrap (i64.wrap (a2-a1)-1)).tdiv 2))) λx1=>sh (G.cO a0 a3 a1 0 (i64.wrap (i64.wrap (a2-a1)-1))) λx2=>AI ()
def bO (G:af)(n:Nat)(a0:Addr)(a1:Int):M (Int×Int):=eI a0 λx0=>if decide (x0=0) then AI (a1,1) else if decide (x0=12) then AI (a1,2) else AI (a1,0)
def iz (G:af)(n:Nat)(a0:Sl)(a1 a2:Int)(a3:ξ):M (Int×Int):=nW al [vi 0] λx0=>sh (pD (decide (4≠0))) λx1=>sh (pD (decide (4≠0))) λx2=>sh (pD (decide (4≠0))) λx3=>if decide (8<=i64.wrap (a2-a1)) then if decide (50<=i64.wrap (a2-a1)) then sh (G.b7 a0 (i64.wrap (a1+i64.wrap (i64.wrap ((i64.wrap (a2-a1)).tdiv 4)*1))) (some (ak x0)) a3) λx4=>sh (G.b7 a0 (i64.wrap (a1+i64.wrap (i64.wrap ((i64.wrap (a2-a1)).tdiv 4)*2))) (some (ak x0)) a3) λx5=>sh (G.b7 a0 (i64.wrap (a1+i64.wrap (i64.wrap ((i64.wrap (a2-a1)).tdiv 4)*3))) (some (ak x0)) a3) λx6=>sh (G.dE a0 x4 x5 x6 (some (ak x0)) a3) λx7=>bO G n (ak x0) x7 else sh (G.dE a0 (i64.wrap (a1+i64.wrap (i64.wrap ((i64.wrap (a2-a1)).tdiv 4)*1))) (i64.wrap (a1+i64.wrap (i64.wrap ((i64.wrap (a2-a1)).tdiv 4)*2))) (i64.wrap (a1+i64.wrap (i64.wrap ((i64.wrap (a2-a1)).tdiv 4)*3))) (some (ak x0)) a3) λx4=>bO G n (ak x0) x4 else bO G n (ak x0) (i64.wrap (a1+i64.wrap (i64.wrap ((i64.wrap (a2-a1)).tdiv 4)*2)))
def nj (G:af)(n:Nat)(a0:Sl)(a1 a2:Int)(a3:ξ)(a4 a5 a6:Int):M Unit:=if decide (1<=a6) then iX a0 a6 1 λx0=>iX a0 (i64.wrap (a6-1)) 1 λx1=>eI x0 λx2=>eI x1 λx3=>sh (gw G n a3 x2 x3) λx4=>if !decide (x4<0) then AI () else iX a0 (i64.wrap (a6-1)) 1 λx5=>iX a0 a6 1 λx6=>eI x5 λx7=>eI x6 λx8=>iX a0 a6 1 λx9=>sN x9 [vi x7] λdZ=>iX a0 (i64.wrap (a6-1)) 1 λx11=>sN x11 [vi x8] λx12=>G.bF a0 a1 a2 a3 a4 a5 (i64.wrap (a6-1)) else AI ()
def np (G:af)(n:Nat)(a0:Sl)(a1 a2:Int)(a3:ξ)(a4 a5 a6:Int):M Unit:=if decide (a6<a2) then iX a0 a6 1 λx0=>iX a0 (i64.wrap (a6-1)) 1 λx1=>eI x0 λx2=>eI x1 λx3=>sh (fT G n a3 x2 x3) λx4=>if !decide (x4<0) then AI () else iX a0 (i64.wrap (a6-1)) 1 λx5=>iX a0 a6 1 λx6=>eI x5 λx7=>eI x6 λx8=>iX a0 a6 1 λx9=>sN x9 [vi x7] λdZ=>iX a0 (i64.wrap (a6-1)) 1 λx11=>sN x11 [vi x8] λx12=>G.bG a0 a1 a2 a3 a4 a5 (i64.wrap (a6+1)) else AI ()
def bt (G:af)(n:Nat)(a0:Sl)(a1 a2:Int)(a3:ξ)(a4 a5:Int):M Int:=if decide (a4<a2) then iX a0 a4 1 λx0=>iX a0 (i64.wrap (a4-1)) 1 λx1=>eI x0 λx2=>eI x1 λx3=>sh (gu G n a3 x2 x3) λx4=>if !decide (x4<0) then G.aS a0 a1 a2 a3 (i64.wrap (a4+1)) a5 else AI a4 else AI a4
def dB (G:af)(n:Nat)(a0:Sl)(a1 a2:Int)(a3:ξ)(a4 a5:Int):M (Unit⊕Bool):=if decide (2<=i64.wrap (a2-a4)) then sh (G.bG a0 a1 a2 a3 a4 a5 (i64.wrap (a4+1))) λx0=>G.aT a0 a1 a2 a3 a4 (i64.wrap (a5+1)) else G.aT a0 a1 a2 a3 a4 (i64.wrap (a5+1))
def dX (G:af)(n:Nat)(a0:Sl)(a1 a2:Int)(a3:ξ)(a4 a5:Int):M (Unit⊕Bool):=if decide (a5<5) then sh (G.aS a0 a1 a2 a3 a4 a5) λx0=>if decide (x0=a2) then AI (Sum.inr true) else if decide (i64.wrap (a2-a1)<50) then AI (Sum.inr false) else iX a0 (i64.wrap (x0-1)) 1 λx1=>iX a0 x0 1 λx2=>eI x1 λx3=>eI x2 λx4=>iX a0 x0 1 λx5=>sN x5 [vi x3] λx6=>iX a0 (i64.wrap (x0-1)) 1 λx7=>sN x7 [vi x4] λx8=>if decide (2<=i64.wrap (x0-a1)) then sh (G.bF a0 a1 a2 a3 x0 a5 (i64.wrap (x0-1))) λx9=>dB G n a0 a1 a2 a3 x0 a5 else dB G n a0 a1 a2 a3 x0 a5 else AI (Sum.inl ())
def eM (G:af)(n:Nat)(a0:Sl)(a1 a2:Int)(a3:ξ):M Bool:=sh (G.aT a0 a1 a2 a3 (i64.wrap (a1+1)) 0) (dW (λx0=>AI false) (λx0=>AI x0))
def bX (G:af)(n:Nat)(a0:Sl)(a1:Int)(a2:ξ)(a3 a4:Int):M Int:=if decide (a3<=a4) then iX a0 a1 1 λx0=>iX a0 a4 1 λx1=>eI x0 λx2=>eI x1 λx3=>sh (iU G n a2 x2 x3) λx4=>if decide (x4<0) then G.bH a0 a1 a2 a3 (i64.wrap (a4-1)) else AI a4 else AI a4
def bY (G:af)(n:Nat)(a0:Sl)(a1:Int)(a2:ξ)(a3 a4:Int):M Int:=if decide (a3<=a4) then iX a0 a1 1 λx0=>iX a0 a3 1 λx1=>eI x0 λx2=>eI x1 λx3=>sh (iT G n a2 x2 x3) λx4=>if !decide (x4<0) then G.bI a0 a1 a2 (i64.wrap (a3+1)) a4 else AI a3 else AI a3
def bZ (G:af)(n:Nat)(a0:Sl)(a1:Int)(a2:ξ)(a3 a4:Int):M Int:=sh (G.bI a0 a1 a2 a3 a4) λx0=>sh (G.bH a0 a1 a2 x0 a4) λx1=>if decide (x1<x0) then AI x0 else iX a0 x1 1 λx2=>iX a0 x0 1 λx3=>eI x2 λx4=>eI x3 λx5=>iX a0 x0 1 λx6=>sN x6 [vi x4] λx7=>iX a0 x1 1 λx8=>sN x8 [vi x5] λx9=>G.bJ a0 a1 a2 (i64.wrap (x0+1)) (i64.wrap (x1-1))
def gb (G:af)(n:Nat)(a0:Sl)(a1 a2 a3:Int)(a4:ξ):M Int:=iX a0 a3 1 λx0=>iX a0 a1 1 λx1=>eI x0 λx2=>eI x1 λx3=>iX a0 a1 1 λx4=>sN x4 [vi x2] λx5=>iX a0 a3 1 λx6=>sN x6 [vi x3] λx7=>sh (G.bJ a0 a1 a4 (i64.wrap (a1+1)) (i64.wrap (a2-1))) λx8=>AI x8
def dj (G:af)(n:Nat)(a0:Sl)(a1:Int)(a2:ξ)(a3 a4:Int):M Int:=if decide (a3<=a4) then iX a0 a4 1 λx0=>iX a0 a1 1 λx1=>eI x0 λx2=>eI x1 λx3=>sh (kG G n a2 x2 x3) λx4=>if !decide (x4<0) then G.cF a0 a1 a2 a3 (i64.wrap (a4-1)) else AI a4 else AI a4
def dq (G:af)(n:Nat)(a0:Sl)(a1:Int)(a2:ξ)(a3 a4:Int):M Int:=if decide (a3<=a4) then iX a0 a3 1 λx0=>iX a0 a1 1 λx1=>eI x0 λx2=>eI x1 λx3=>sh (kF G n a2 x2 x3) λx4=>if decide (x4<0) then G.cG a0 a1 a2 (i64.wrap (a3+1)) a4 else AI a3 else AI a3
def du (G:af)(n:Nat)(a0:Sl)(a1:Int)(a2:ξ)(a3 a4:Int):M Int:=sh (G.cG a0 a1 a2 a3 a4) λx0=>sh (G.cF a0 a1 a2 x0 a4) λx1=>if decide (x1<x0) then AI x1 else iX a0 x1 1 λx2=>iX a0 x0 1 λx3=>eI x2 λx4=>eI x3 λx5=>iX a0 x0 1 λx6=>sN x6 [vi x4] λx7=>iX a0 x1 1 λx8=>sN x8 [vi x5] λx9=>G.cH a0 a1 a2 (i64.wrap (x0+1)) (i64.wrap (x1-1))
def dv (G:af)(n:Nat)(a0:Sl)(a1:Int)(a2:ξ)(a3 a4:Int):M Int:=if decide (a3<=a4) then iX a0 a4 1 λx0=>iX a0 a1 1 λx1=>eI x0 λx2=>eI x1 λx3=>sh (kQ G n a2 x2 x3) λx4=>if !decide (x4<0) then G.cI a0 a1 a2 a3 (i64.wrap (a4-1)) else AI a4 else AI a4
def dw (G:af)(n:Nat)(a0:Sl)(a1:Int)(a2:ξ)(a3 a4:Int):M Int:=if decide (a3<=a4) then iX a0 a3 1 λx0=>iX a0 a1 1 λx1=>eI x0 λx2=>eI x1 λx3=>sh (kP G n a2 x2 x3) λx4=>if decide (x4<0) then G.cJ a0 a1 a2 (i64.wrap (a3+1)) a4 else AI a3 else AI a3
def iV (G:af)(n:Nat)(a0:Sl)(a1 a2 a3:Int)(a4:ξ):M (Int×Bool):=iX a0 a3 1 λx0=>iX a0 a1 1 λx1=>eI x0 λx2=>eI x1 λx3=>iX a0 a1 1 λx4=>sN x4 [vi x2] λx5=>iX a0 a3 1 λx6=>sN x6 [vi x3] λx7=>sh (G.cJ a0 a1 a4 (i64.wrap (a1+1)) (i64.wrap (a2-1))) λx8=>sh (G.cI a0 a1 a4 x8 (i64.wrap (a2-1))) λx9=>if decide (x9<x8) then iX a0 a1 1 λdZ=>iX a0 x9 1 λx11=>eI dZ λx12=>eI x11 λx13=>iX a0 x9 1 λfJ=>sN fJ [vi x12] λx15=>iX a0 a1 1 λsK=>sN sK [vi x13] λx17=>AI (x9,true) else iX a0 x9 1 λdZ=>iX a0 x8 1 λx11=>eI dZ λx12=>eI x11 λx13=>iX a0 x8 1 λfJ=>sN fJ [vi x12] λx15=>iX a0 x9 1 λsK=>sN sK [vi x13] λx17=>sh (G.cH a0 a1 a4 (i64.wrap (x8+1)) (i64.wrap (x9-1))) λuy=>iX a0 a1 1 λx19=>iX a0 uy 1 λx20=>eI x19 λx21=>eI x20 λx22=>iX a0 uy 1 λx23=>sN x23 [vi x21] λx24=>iX a0 a1 1 λx25=>sN x25 [vi x22] λx26=>AI (uy,false)
def bP (G:af)(n:Nat)(a0:Sl)(a1 a2:Int)(a3:ξ)(a4 a5:Int):M (Unit⊕Unit):=iX a0 (i64.wrap (a2+a4)) 1 λx0=>iX a0 (i64.wrap (a2+a5)) 1 λx1=>eI x0 λx2=>eI x1 λx3=>sh (lL G n a3 x2 x3) λx4=>if !decide (x4<0) then AI (Sum.inr ()) else iX a0 (i64.wrap (a2+a5)) 1 λx5=>iX a0 (i64.wrap (a2+a4)) 1 λx6=>eI x5 λx7=>eI x6 λx8=>iX a0 (i64.wrap (a2+a4)) 1 λx9=>sN x9 [vi x7] λdZ=>iX a0 (i64.wrap (a2+a5)) 1 λx11=>sN x11 [vi x8] λx12=>G.cP a0 a1 a2 a3 a5
def dJ (G:af)(n:Nat)(a0:Sl)(a1 a2:Int)(a3:ξ)(a4:Int):M (Unit⊕Unit):=if decide (a1<=i64.wrap (i64.wrap (2*a4)+1)) then AI (Sum.inl ()) else if decide (i64.wrap (i64.wrap (i64.wrap (2*a4)+1)+1)<a1) then iX a0 (i64.wrap (a2+i64.wrap (i64.wrap (2*a4)+1))) 1 λx0=>iX a0 (i64.wrap (i64.wrap (a2+i64.wrap (i64.wrap (2*a4)+1))+1)) 1 λx1=>eI x0 λx2=>eI x1 λx3=>sh (lK G n a3 x2 x3) λx4=>if decide (x4<0) then bP G n a0 a1 a2 a3 a4 (i64.wrap (i64.wrap (i64.wrap (2*a4)+1)+1)) else bP G n a0 a1 a2 a3 a4 (i64.wrap (i64.wrap (2*a4)+1)) else bP G n a0 a1 a2 a3 a4 (i64.wrap (i64.wrap (2*a4)+1))
def jx (G:af)(n:Nat)(a0:Sl)(a1 a2 a3:Int)(a4:ξ):M Unit:=sh (G.cP a0 a2 a3 a4 a1) (dW (λx0=>AI ()) (λx0=>AI ()))
def r9 (G:af)(n:Nat)(a0:Sl)(a1:Int)(a2:θ)(a3:ξ):M Int:=sh (G.dE a0 (i64.wrap (a1-1)) a1 (i64.wrap (a1+1)) a2 a3) λx0=>AI x0
def kH (G:af)(n:Nat)(a0:Sl)(a1 a2 a3:Int)(a4:θ)(a5:ξ):M Int:=sh (G.dG a0 a1 a2 a4 a5) λx0=>sh (G.dG a0 x0.2 a3 a4 a5) λx1=>sh (G.dG a0 x0.1 x1.1 a4 a5) λx2=>AI x2.2
def kI (G:af)(n:Nat)(a0:Sl)(a1 a2:Int)(a3:θ)(a4:ξ):M (Int×Int):=iX a0 a2 1 λx0=>iX a0 a1 1 λx1=>eI x0 λx2=>eI x1 λx3=>sh (mV G n a4 x2 x3) λx4=>if decide (x4<0) then sh (nn a3) λx5=>eI x5 λx6=>sh (nn a3) λx7=>sN x7 [vi (i64.wrap (x6+1))] λx8=>AI (a2,a1) else AI (a1,a2)
def af.at:Nat->af|0=>⟨λ_ _ _ _ _ _=>AS,λ_ _=>AS,λ_ _ _ _ _=>AS,λ_ _=>AS,λ_ _ _ _=>AS,λ_ _ _ _ _ _ _ _ _=>AS,λ_ _ _ _ _=>AS,λ_ _ _ _ _ _ _=>AS,λ_ _ _ _ _=>AS,λ_ _ _ _ _ _=>AS,λ_ _ _ _ _=>AS,λ_ _ _ _=>AS,λ_ _ _ _ _ _=>AS,λ_ _ _ _ _=>AS,λ_ _ _ _=>AS,λ_ _ _ _=>AS,λ_ _ _ _ _ _ _=>AS,λ_ _ _ _ _ _ _=>AS,λ_ _ _ _ _ _=>AS,λ_ _ _ _ _ _=>AS,λ_ _ _ _=>AS,λ_ _ _ _ _=>AS,λ_ _ _ _ _=>AS,λ_ _ _ _ _=>AS,λ_ _ _ _ _=>AS,λ_ _ _ _ _=>AS,λ_ _ _ _ _=>AS,λ_ _ _ _ _=>AS,λ_ _ _ _ _=>AS,λ_ _ _ _ _=>AS,λ_ _ _ _ _=>AS,λ_ _ _ _ _=>AS,λ_ _ _ _ _=>AS,λ_ _ _ _=>AS,λ_ _ _ _ _ _=>AS,λ_ _ _ _ _=>AS⟩|n+1=>⟨mh (af.at n) n,po (af.at n) n,oP (af.at n) n,kU (af.at n) n,mW (af.at n) n,lM (af.at n) n,qe (af.at n) n,dS (af.at n) n,eP (af.at n) n,cn (af.at n) n,cq (af.at n) n,gG (af.at n) n,dH (af.at n) n,dI (af.at n) n,jv (af.at n) n,iz (af.at n) n,nj (af.at n) n,np (af.at n) n,bt (af.at n) n,dX (af.at n) n,eM (af.at n) n,bX (af.at n) n,bY (af.at n) n,bZ (af.at n) n,gb (af.at n) n,dj (af.at n) n,dq (af.at n) n,du (af.at n) n,dv (af.at n) n,dw (af.at n) n,iV (af.at n) n,dJ (af.at n) n,jx (af.at n) n,r9 (af.at n) n,kH (af.at n) n,kI (af.at n) n⟩
def fu (n:Nat):=(af.at n).fu
def cS (n:Nat):=(af.at n).cS
def gJ (n:Nat):=(af.at n).gJ
def dU (n:Nat):=(af.at n).dU
def kM (n:Nat):=(af.at n).kM
def ij (n:Nat):=(af.at n).ij
def oh (n:Nat):=(af.at n).oh
def bE (n:Nat):=(af.at n).bE
def de (n:Nat):=(af.at n).de
def bQ (n:Nat):=(af.at n).bQ
def bR (n:Nat):=(af.at n).bR
def dK (n:Nat):=(af.at n).dK
def cN (n:Nat):=(af.at n).cN
def cO (n:Nat):=(af.at n).cO
def eZ (n:Nat):=(af.at n).eZ
def ef (n:Nat):=(af.at n).ef
def bF (n:Nat):=(af.at n).bF
def bG (n:Nat):=(af.at n).bG
def aS (n:Nat):=(af.at n).aS
def aT (n:Nat):=(af.at n).aT
def bV (n:Nat):=(af.at n).bV
def bH (n:Nat):=(af.at n).bH
def bI (n:Nat):=(af.at n).bI
def bJ (n:Nat):=(af.at n).bJ
def dz (n:Nat):=(af.at n).dz
def cF (n:Nat):=(af.at n).cF
def cG (n:Nat):=(af.at n).cG
def cH (n:Nat):=(af.at n).cH
def cI (n:Nat):=(af.at n).cI
def cJ (n:Nat):=(af.at n).cJ
def eQ (n:Nat):=(af.at n).eQ
def cP (n:Nat):=(af.at n).cP
def dV (n:Nat):=(af.at n).dV
def b7 (n:Nat):=(af.at n).b7
def dE (n:Nat):=(af.at n).dE
def dG (n:Nat):=(af.at n).dG
def vH (n:Nat):=ay (af.at n) n
def rr (n:Nat):=jj (af.at n) n
def oi (n:Nat):=gu (af.at n) n
def oj (n:Nat):=gw (af.at n) n
def nq (n:Nat):=fT (af.at n) n
def qN (n:Nat):=iT (af.at n) n
def qO (n:Nat):=iU (af.at n) n
def tZ (n:Nat):=kP (af.at n) n
def ua (n:Nat):=kQ (af.at n) n
def tF (n:Nat):=kF (af.at n) n
def tG (n:Nat):=kG (af.at n) n
def uR (n:Nat):=lK (af.at n) n
def uS (n:Nat):=lL (af.at n) n
def wa (n:Nat):=mV (af.at n) n
def Aq (n:Nat):=mi (af.at n) n
def EK (n:Nat):=eY (af.at n) n
def ud (n:Nat):=cZ (af.at n) n
def ug (n:Nat):=cY (af.at n) n
def uh (n:Nat):=bg (af.at n) n
def ui (n:Nat):=cX (af.at n) n
def qD (n:Nat):=eU (af.at n) n
def tH (n:Nat):=bO (af.at n) n
def mX (n:Nat):=dB (af.at n) n
def tI (n:Nat):=bP (af.at n) n
abbrev aav (n:Nat):dh:=eN 43 [wV,au] [bj] (cS n)
abbrev ajO:=L1 (bL 175) [(1,au),(2,aw),(5,aw),(6,bj),(37,au),(38,au)] [] ([7]++rG 38 8) 0 fu
abbrev aaw (n:Nat):dh:=eN 60 [wV,au,wV,au,tyM] [au] (gJ n)
abbrev aax (n:Nat):dh:=eN 61 [bj,sH] [] (dU n)
abbrev aay (n:Nat):dh:=eN 62 [au,au,aw,aw] [au] (kM n)
abbrev aaz (n:Nat):dh:=eN 76 [wV,au,wV,au,tyM] [au] (oh n)
abbrev ajP:=L2 (bL 351) [(0,wV),(2,wV),(4,tyM),(11,wV),(12,wV),(14,bj),(15,bj),(93,au),(94,au)] [] [(10,au)] ([10,16,17,18]++rG 94 62) 1 .ret ij
abbrev aaA (n:Nat):dh:=eN 77 [bj,au,au,au,sH] [] (de n)
abbrev ajQ:=Lr [0,1,1] [(0,bj),(1,au),(2,au),(3,au),(4,sH),(10,jc),(11,jc)] [] ([1,2,3]++rG 10 138) bE
abbrev Sf (n:Nat):dh:=eN 106 [bj,au,au,sH] [] (dK n)
abbrev aen:=L1 [0,1] [(0,bj),(1,au),(2,au),(3,sH),(8,au)] [] ([8,9]++rG 12 41) 0 bR
abbrev aeo:=L1 (bL 329) [(0,bj),(1,au),(2,au),(3,sH),(8,au),(9,au)] [] ([9]++rG 18 35) 2 bQ
abbrev Si (n:Nat):dh:=eN 107 [bj,au,au,sH] [] (eZ n)
abbrev aep:=L1 (bL 87) [(0,bj),(3,sH),(8,au),(9,au),(10,au),(11,au)] [] ([11]++rG 20 10) 0 cN
abbrev aeq:=L1 (bL 95) [(0,bj),(3,sH),(8,au),(9,au),(12,au)] [] ([12]++rG 32 28) 2 cO
abbrev Sj (n:Nat):dh:=eN 109 [bj,au,au,sH] [au,au] (ef n)
abbrev Sk (n:Nat):dh:=eN 111 [bj,au,au,sH] [jc] (bV n)
abbrev aer:=L2 [0,1,0,1,1] [(0,bj),(1,au),(2,au),(3,sH),(9,au),(10,au)] [] [(8,jc)] (rG 8 5++rG 15 126) 0 .ret aT
abbrev aes:=L1 (bL 2123) [(0,bj),(1,au),(2,au),(3,sH),(9,au),(10,au)] [(9,au)] ([9]++rG 19 20) 2 aS
abbrev aet:=L1 (bL 351819) [(0,bj),(1,au),(2,au),(3,sH),(9,au),(10,au),(11,au)] [] ([11]++rG 68 33) 4 bF
abbrev aeu:=L1 (bL 360011) [(0,bj),(1,au),(2,au),(3,sH),(9,au),(10,au),(12,au)] [] ([12]++rG 107 34) 6 bG
abbrev Sn (n:Nat):dh:=eN 112 [bj,au,au,au,sH] [au] (dz n)
abbrev aev:=L1 [0,0,1,1,1] [(0,bj),(1,au),(4,sH),(11,au),(12,au)] [(11,au)] ([11,12]++rG 31 58) 0 bJ
abbrev aew:=L1 (bL 519) [(0,bj),(1,au),(4,sH),(11,au),(12,au)] [(11,au)] ([11]++rG 31 19) 2 bI
abbrev aex:=L1 (bL 1159) [(0,bj),(1,au),(4,sH),(11,au),(12,au)] [(12,au)] ([12]++rG 50 18) 4 bH
abbrev So (n:Nat):dh:=eN 113 [bj,au,au,au,sH] [au,jc] (eQ n)
abbrev aey:=L1 [0,0,1,1,1] [(0,bj),(1,au),(4,sH),(12,au),(13,au)] [(12,au)] ([12]++rG 32 18) 0 cJ
abbrev aez:=L1 (bL 79) [(0,bj),(1,au),(4,sH),(12,au),(13,au)] [(13,au)] ([13]++rG 50 19) 2 cI
abbrev aeA:=L1 (bL 2559) [(0,bj),(1,au),(4,sH),(12,au),(13,au)] [(13,au)] ([12,13]++rG 105 58) 4 cH
abbrev aeB:=L1 (bL 33279) [(0,bj),(1,au),(4,sH),(12,au),(13,au)] [(12,au)] ([12]++rG 105 18) 6 cG
abbrev aeC:=L1 (bL 74239) [(0,bj),(1,au),(4,sH),(12,au),(13,au)] [(13,au)] ([13]++rG 123 19) 8 cF
abbrev Sp (n:Nat):dh:=eN 143 [bj,au,au,au,sH] [] (dV n)
abbrev aeD:=L2 [0,1] [(0,bj),(2,au),(3,au),(4,sH),(10,au)] [] [] ([10,11]++rG 13 69) 0 .ret cP
abbrev Sq (n:Nat):dh:=eN 146 [bj,au,wV,sH] [au] (b7 n)
abbrev Sr (n:Nat):dh:=eN 147 [bj,au,au,au,wV,sH] [au] (dE n)
abbrev Ss (n:Nat):dh:=eN 176 [bj,au,au,wV,sH] [au,au] (dG n)
abbrev C16 (n:Nat):List dh:=aav n::aaw n::aax n::aay n::aaz n::aaA n::Sf n::Si n::Sj n::Sk n::Sn n::So n::Sp n::Sq n::Sr n::Ss n::C15 n
abbrev ajR (n:Nat):List (iB Sl):=[jN (bL 351) [.code (bL 127)] [(1,au),(2,aw),(5,aw),(6,bj)] (Aq n)]
def ajS:=dR [(1,[5,13]++rG 0 5++rG 6 7++[14,15,16,17])]
def aaB:=dR [(1,[0,1,2,3,5,7,8,9,10,12,4,6,14,11,13,15]),(2,[0,1,2,4,5,6,3,7,8,9]),(4,[0,1,2,4,5,6,3,7,8,9]),(6,[0,1,2,4,5,6,3,7,8,9]),(10,[0,1,2,4,5,6,8,9,10,3,7,11,12,13]),(18,[0,1,2,3,5,6,7,11,12,13,14,16,17,18,4,8,9,10,15]++rG 19 5),(21,[0,1,2,3,5,6,7,11,12,13,14,16,17,18,22,4,8,9,10,15,19,20,21,23,24])]
abbrev Xd (n:Nat):List (iB (Unit⊕Int)):=[jN (bL 91743) [.code (bL 124511),.ar 2,.code (bL 7775)] [(0,wV),(2,wV),(4,tyM),(11,wV),(12,wV),(14,bj),(15,bj),(16,au),(93,au),(94,au)] (EK n)]
abbrev ajT (n:Nat):List nH:=[dN 84 [au,au] [au] (vH n)]
def aaC:=dR [(17,rG 0 8++[9,10,11,8]++rG 12 5)]
abbrev Xe (n:Nat):List (iB Unit):=[jN (bL 1507) [.code (bL 2019),.ar 1] [(0,bj),(1,au),(2,au),(3,au),(4,sH),(10,jc),(11,jc),(12,au)] (ud n), jN (bL 10211) [.code (bL 14307),.code (bL 8163),.ar 1] [(0,bj),(1,au),(2,au),(3,au),(4,sH),(10,jc),(11,jc),(12,au),(13,au),(14,au)] (ug n), jN (bL 20451) [.code (bL 28643),.code (bL 16355),.ar 1] [(0,bj),(1,au),(2,au),(3,au),(4,sH),(10,jc),(11,jc),(12,au),(13,au)] (uh n), jN (bL 24547) [.code (bL 32739),.ar 1] [(0,bj),(1,au),(2,au),(3,au),(4,sH),(10,jc),(11,jc),(12,au),(13,au)] (ui n)]
abbrev aeE (n:Nat):List nH:=[dN 22 [au,au] [au] (rr n)]
def NI:=dR [(4,rG 0 8++[9,10,11,12,8,13,14,15,16]),(6,rG 0 9++[10,11,12,9]++rG 13 5)]
abbrev Su (n:Nat):List (iB Unit):=[jN (bL 4681) [.ar 3,.code (bL 3657)] [(0,bj),(1,au),(2,au),(3,sH),(8,au),(9,au)] (qD n)]
def NJ:=dR [(10,rG 0 11++[12,13,14,11]++rG 15 5)]
abbrev aeF (n:Nat):List (iB (Int×Int)):=[jN (bL 383) [.code (bL 511)] [(11,aw),(13,au)] (tH n)]
abbrev aeG (n:Nat):List nH:=[dN 23 [au,au] [au] (oi n), dN 72 [au,au] [au] (oj n), dN 112 [au,au] [au] (nq n)]
def FW:=dR [(5,rG 0 8++[9,10,11,12,8]++rG 13 5),(11,rG 0 9++[10,11,12,9]++rG 13 5),(16,[0,1,2,3,5,6,7,8,4,9,10,11,12]),(17,rG 0 9++[10,11,12,9]++rG 13 5),(22,[0,1,2,3,5,6,7,8,4,9,10,11,12]),(23,rG 0 9++[10,11,12,9]++rG 13 5)]
abbrev Sv (n:Nat):List (iB (Unit⊕Bool)):=[jN (bL 48715) [.code (bL 65099),.ar 1,.code (bL 459)] [(0,bj),(1,au),(2,au),(3,sH),(9,au),(10,au)] (mX n)]
abbrev aeH (n:Nat):List nH:=[dN 35 [au,au] [au] (qN n), dN 54 [au,au] [au] (qO n)]
def IV:=dR [(1,rG 0 7++[8,9,10,7]++rG 11 5),(3,rG 0 8++[9,10,11,8]++rG 12 5),(5,rG 0 8++[9,10,11,8,12,13,14,15]),(8,rG 0 7++[8,9,10,7]++rG 11 5)]
abbrev aeI (n:Nat):List nH:=[dN 36 [au,au] [au] (tZ n), dN 54 [au,au] [au] (ua n), dN 109 [au,au] [au] (tF n), dN 127 [au,au] [au] (tG n)]
def CL:=dR [(1,rG 0 7++[8,9,10,7]++rG 11 5),(3,rG 0 8++[9,10,11,8,12,13,14,15]),(5,rG 0 8++[9,10,11,8]++rG 12 5),(8,rG 0 7++[8,9,10,7]++rG 11 5),(10,rG 0 7++[8,9,10,7]++rG 11 5),(13,rG 0 8++[9,10,11,8,12,13,14,15]),(15,rG 0 8++[9,10,11,8]++rG 12 5),(18,rG 0 7++[8,9,10,7]++rG 11 5),(21,rG 0 7++[8,9,10,7]++rG 11 5)]
abbrev aeJ (n:Nat):List nH:=[dN 24 [au,au] [au] (uR n), dN 43 [au,au] [au] (uS n)]
def Uv:=dR [(3,rG 0 11++rG 12 6++[11,18,19,20,21]),(5,rG 0 6++rG 7 5++[6,12,13,14,15]),(6,rG 0 13++rG 14 5++[13]++rG 19 5)]
abbrev Sw (n:Nat):List (iB (Unit⊕Unit)):=[jN (bL 625) [.code (bL 881),.code (bL 497),.ar 1] [(0,bj),(2,au),(3,au),(4,sH),(10,au),(11,au)] (tI n)]
abbrev aeK (n:Nat):List nH:=[dN 12 [au,au] [au] (wa n)]
def aeL:=dR [(1,[0,1,2,3,5,6,7,4,8,9,10])]
def ao (n:Nat):Prop:=aC TZp (aav n)/\aC TZp (aaw n)/\aC TZp (aax n)/\aC TZp (aay n)/\aC TZp (aaz n)/\aC TZp (aaA n)/\aC TZp (Sf n)/\aC TZp (Si n)/\aC TZp (Sj n)/\aC TZp (Sk n)/\aC TZp (Sn n)/\aC TZp (So n)/\aC TZp (Sp n)/\aC TZp (Sq n)/\aC TZp (Sr n)/\aC TZp (Ss n)
def iG (n:Nat)(H:ao n):cV TZp (C16 n):=.cons H.1 (.cons H.2.1 (.cons H.2.2.1 (.cons H.2.2.2.1 (.cons H.2.2.2.2.1 (.cons H.2.2.2.2.2.1 (.cons H.2.2.2.2.2.2.1 (.cons H.2.2.2.2.2.2.2.1 (.cons H.2.2.2.2.2.2.2.2.1 (.cons H.2.2.2.2.2.2.2.2.2.1 (.cons H.2.2.2.2.2.2.2.2.2.2.1 (.cons H.2.2.2.2.2.2.2.2.2.2.2.1 (.cons H.2.2.2.2.2.2.2.2.2.2.2.2.1 (.cons H.2.2.2.2.2.2.2.2.2.2.2.2.2.1 (.cons H.2.2.2.2.2.2.2.2.2.2.2.2.2.2.1 (.cons H.2.2.2.2.2.2.2.2.2.2.2.2.2.2.2 (K15 n))))))))))))))))
def Xf (n:Nat)(H:Hy ao n):=ajO.k TZp Tryz.f43 n (hT:=λm hm=>.m1 (iG m ((H.d hm).s)))
def wL (n:Nat)(H:Hy ao n):aC TZp (aav (n+1)):=aR Tryz.f43 (js:=ajR n) (hT:=⟨.nil,iG n (H.s),.nil,(.cc (Xf n H) .nil),(.cc .nil)⟩)
def Bj (n:Nat)(H:Hy ao n):aC TZp (aaw (n+1)):=aR Tryz.f60 (hT:=.m1 (iG n (H.s)))
def uj (n:Nat)(H:Hy ao n):aC TZp (aax (n+1)):=aR Tryz.f61 (hT:=.m1 (iG n (H.s)))
def vI (n:Nat)(H:Hy ao n):aC TZp (aay (n+1)):=aR Tryz.f62 (dr:=ajS) (hT:=.m1 (iG n (H.s)))
def Xg (n:Nat)(H:Hy ao n):=ajP.k TZp Tryz.f76 n (dr:=aaB) (jt:=Xd) (hT:=λm hm=>.m3 (iG m ((H.d hm).s)) (.cc .nil))
def Ce (n:Nat)(H:Hy ao n):aC TZp (aaz (n+1)):=aR Tryz.f76 (dr:=aaB) (hT:=.m2 (iG n (H.s)) (.cc (Xg n H) .nil))
def aaD (n:Nat)(H:ao n):ni TZp (ajT n):=.cons (bB (.cons (ke [aw,aw] (H).2.2.2.1) .nil)) .nil
def Xh (n:Nat)(H:Hy ao n):=ajQ.k TZp Tryz.f77 n (dr:=aaC) (jt:=Xe) (hT:=λm hm=>⟨.nil,iG m ((H.d hm).s),(aaD m ((H.d hm).s)),.nil,(.cc (.cc (.cc (.cc .nil))))⟩)
def sJ (n:Nat)(H:Hy ao n):aC TZp (aaA (n+1)):=aR Tryz.f77 (dr:=aaC) (hT:=⟨.nil,iG n (H.s),(aaD n (H.s)),(.cc (Xh n H) .nil),.nil⟩)
def NK (n:Nat)(H:ao n):ni TZp (aeE n):=.cons (bB (.cons (ke [aw,aw] (H).2.2.2.1) .nil)) .nil
def Sx (n:Nat)(H:Hy ao n):=aeo.k TZp Tryz.f106 n (dr:=NI) (jt:=Su) (hT:=λm hm=>⟨.nil,iG m ((H.d hm).s),(NK m ((H.d hm).s)),.nil,(.cc .nil)⟩)
def Sy (n:Nat)(H:Hy ao n):=aen.k TZp Tryz.f106 n (dr:=NI) (hT:=λm hm=>⟨.nil,iG m ((H.d hm).s),(NK m ((H.d hm).s)),(.cc (Sx m (H.d hm)) .nil),.nil⟩)
def pN (n:Nat)(H:Hy ao n):aC TZp (Sf (n+1)):=aR Tryz.f106 (dr:=NI) (hT:=⟨.nil,iG n (H.s),(NK n (H.s)),(.cc (Sy n H) .nil),.nil⟩)
def Sz (n:Nat)(H:Hy ao n):=aep.k TZp Tryz.f107 n (dr:=NJ) (hT:=λm hm=>.m1 (iG m ((H.d hm).s)))
def SA (n:Nat)(H:Hy ao n):=aeq.k TZp Tryz.f107 n (dr:=NJ) (hT:=λm hm=>.m1 (iG m ((H.d hm).s)))
def sd (n:Nat)(H:Hy ao n):aC TZp (Si (n+1)):=aR Tryz.f107 (dr:=NJ) (hT:=.m2 (iG n (H.s)) (.cc (Sz n H) (.cc (SA n H) .nil)))
def qE (n:Nat)(H:Hy ao n):aC TZp (Sj (n+1)):=aR Tryz.f109 (js:=aeF n) (hT:=.m3 (iG n (H.s)) (.cc .nil))
def FY (n:Nat)(H:ao n):ni TZp (aeG n):=.cons (bB (.cons (ke [aw,aw] (H).2.2.2.1) .nil)) (.cons (bB (.cons (ke [aw,aw] (H).2.2.2.1) .nil)) (.cons (bB (.cons (ke [aw,aw] (H).2.2.2.1) .nil)) .nil))
def SB (n:Nat)(H:Hy ao n):=aet.k TZp Tryz.f111 n (dr:=FW) (hT:=λm hm=>⟨.nil,iG m ((H.d hm).s),(FY m ((H.d hm).s)),.nil,.nil⟩)
def SC (n:Nat)(H:Hy ao n):=aeu.k TZp Tryz.f111 n (dr:=FW) (hT:=λm hm=>⟨.nil,iG m ((H.d hm).s),(FY m ((H.d hm).s)),.nil,.nil⟩)
def SD (n:Nat)(H:Hy ao n):=aes.k TZp Tryz.f111 n (dr:=FW) (hT:=λm hm=>⟨.nil,iG m ((H.d hm).s),(FY m ((H.d hm).s)),.nil,.nil⟩)
def SE (n:Nat)(H:Hy ao n):=aer.k TZp Tryz.f111 n (dr:=FW) (jt:=Sv) (hT:=λm hm=>⟨.nil,iG m ((H.d hm).s),(FY m ((H.d hm).s)),(.cc (SD m (H.d hm)) (.cc (SB m (H.d hm)) (.cc (SC m (H.d hm)) .nil))),(.cc .nil)⟩)
def mj (n:Nat)(H:Hy ao n):aC TZp (Sk (n+1)):=aR Tryz.f111 (dr:=FW) (hT:=⟨.nil,iG n (H.s),(FY n (H.s)),(.cc (SE n H) .nil),.nil⟩)
def IW (n:Nat)(H:ao n):ni TZp (aeH n):=.cons (bB (.cons (ke [aw,aw] (H).2.2.2.1) .nil)) (.cons (bB (.cons (ke [aw,aw] (H).2.2.2.1) .nil)) .nil)
def SF (n:Nat)(H:Hy ao n):=aex.k TZp Tryz.f112 n (dr:=IV) (hT:=λm hm=>⟨.nil,iG m ((H.d hm).s),(IW m ((H.d hm).s)),.nil,.nil⟩)
def SG (n:Nat)(H:Hy ao n):=aew.k TZp Tryz.f112 n (dr:=IV) (hT:=λm hm=>⟨.nil,iG m ((H.d hm).s),(IW m ((H.d hm).s)),.nil,.nil⟩)
def SH (n:Nat)(H:Hy ao n):=aev.k TZp Tryz.f112 n (dr:=IV) (hT:=λm hm=>⟨.nil,iG m ((H.d hm).s),(IW m ((H.d hm).s)),(.cc (SG m (H.d hm)) (.cc (SF m (H.d hm)) .nil)),.nil⟩)
def pz (n:Nat)(H:Hy ao n):aC TZp (Sn (n+1)):=aR Tryz.f112 (dr:=IV) (hT:=⟨.nil,iG n (H.s),(IW n (H.s)),(.cc (SH n H) .nil),.nil⟩)
def CN (n:Nat)(H:ao n):ni TZp (aeI n):=.cons (bB (.cons (ke [aw,aw] (H).2.2.2.1) .nil)) (.cons (bB (.cons (ke [aw,aw] (H).2.2.2.1) .nil)) (.cons (bB (.cons (ke [aw,aw] (H).2.2.2.1) .nil)) (.cons (bB (.cons (ke [aw,aw] (H).2.2.2.1) .nil)) .nil)))
def SI (n:Nat)(H:Hy ao n):=aeC.k TZp Tryz.f113 n (dr:=CL) (hT:=λm hm=>⟨.nil,iG m ((H.d hm).s),(CN m ((H.d hm).s)),.nil,.nil⟩)
def SJ (n:Nat)(H:Hy ao n):=aeB.k TZp Tryz.f113 n (dr:=CL) (hT:=λm hm=>⟨.nil,iG m ((H.d hm).s),(CN m ((H.d hm).s)),.nil,.nil⟩)
def SQ (n:Nat)(H:Hy ao n):=aeA.k TZp Tryz.f113 n (dr:=CL) (hT:=λm hm=>⟨.nil,iG m ((H.d hm).s),(CN m ((H.d hm).s)),(.cc (SJ m (H.d hm)) (.cc (SI m (H.d hm)) .nil)),.nil⟩)
def SR (n:Nat)(H:Hy ao n):=aez.k TZp Tryz.f113 n (dr:=CL) (hT:=λm hm=>⟨.nil,iG m ((H.d hm).s),(CN m ((H.d hm).s)),.nil,.nil⟩)
def SS (n:Nat)(H:Hy ao n):=aey.k TZp Tryz.f113 n (dr:=CL) (hT:=λm hm=>⟨.nil,iG m ((H.d hm).s),(CN m ((H.d hm).s)),.nil,.nil⟩)
def ru (n:Nat)(H:Hy ao n):aC TZp (So (n+1)):=aR Tryz.f113 (dr:=CL) (hT:=⟨.nil,iG n (H.s),(CN n (H.s)),(.cc (SS n H) (.cc (SR n H) (.cc (SQ n H) .nil))),.nil⟩)
def Uw (n:Nat)(H:ao n):ni TZp (aeJ n):=.cons (bB (.cons (ke [aw,aw] (H).2.2.2.1) .nil)) (.cons (bB (.cons (ke [aw,aw] (H).2.2.2.1) .nil)) .nil)
def SU (n:Nat)(H:Hy ao n):=aeD.k TZp Tryz.f143 n (dr:=Uv) (jt:=Sw) (hT:=λm hm=>⟨.nil,iG m ((H.d hm).s),(Uw m ((H.d hm).s)),.nil,(.cc .nil)⟩)
def se (n:Nat)(H:Hy ao n):aC TZp (Sp (n+1)):=aR Tryz.f143 (dr:=Uv) (hT:=⟨.nil,iG n (H.s),(Uw n (H.s)),(.cc (SU n H) .nil),.nil⟩)
def pA (n:Nat)(H:Hy ao n):aC TZp (Sq (n+1)):=aR Tryz.f146 (hT:=.m1 (iG n (H.s)))
def tJ (n:Nat)(H:Hy ao n):aC TZp (Sr (n+1)):=aR Tryz.f147 (hT:=.m1 (iG n (H.s)))
def aeM (n:Nat)(H:ao n):ni TZp (aeK n):=.cons (bB (.cons (ke [aw,aw] (H).2.2.2.1) .nil)) .nil
def tK (n:Nat)(H:Hy ao n):aC TZp (Ss (n+1)):=aR Tryz.f176 (dr:=aeL) (hT:=⟨.nil,iG n (H.s),(aeM n (H.s)),.nil,.nil⟩)
def xW (n:Nat):ao n:=FF (Q:=ao) ⟨eE Tryz.f43,eE Tryz.f60,eE Tryz.f61,eE Tryz.f62,eE Tryz.f76,eE Tryz.f77,eE Tryz.f106,eE Tryz.f107,eE Tryz.f109,eE Tryz.f111,eE Tryz.f112,eE Tryz.f113,eE Tryz.f143,eE Tryz.f146,eE Tryz.f147,eE Tryz.f176⟩ (λk h=>⟨wL k h,Bj k h,uj k h,vI k h,Ce k h,sJ k h,pN k h,sd k h,qE k h,mj k h,pz k h,ru k h,se k h,pA k h,tJ k h,tK k h⟩) n
def K16 (n:Nat):cV TZp (C16 n):=iG n (xW n)
abbrev C17 (n:Nat):List dh:=ahi n::C16 n
def K17 (n:Nat):cV TZp (C17 n):=.cons (LJ n) (K16 n)
def uT:uv (Addr->Sl->Sl->Int->Int->M (Unit⊕Int)):=λG n a0 a1 a2 a3 a4=>if decide (a4<a3) then iX a2 a4 1 λx0=>eB x0 λx1=>if x1 then iX a1 a4 1 λx2=>eI x2 λx3=>if !decide (x3=1) then AI (Sum.inr 3) else G a0 a1 a2 a3 (i64.wrap (a4+1)) else G a0 a1 a2 a3 (i64.wrap (a4+1)) else AI (Sum.inl ())
def qf:=lp uT
theorem Dy (n:Nat):qf (n+1)=uT (qf n) n:=rfl
def uU:uv (Addr->Sl->Sl->Int->Int->M (Unit⊕Int)):=λG n a0 a1 a2 a3 a4=>if decide (a4<a3) then iX a2 a4 5 λx0=>nL x0 λx1=>nW av [vi 0,.string (ofBytes []),.bool false,aE,aE] λx2=>sN (ak x2) [vi x1.1,.string x1.2.1,.bool x1.2.2.1,aA x1.2.2.2.1,aA x1.2.2.2.2] λx3=>iX a1 a4 1 λx4=>eB x4 λx5=>if !x5 then AI (Sum.inr 3) else nL (ak x2) λx6=>sh (Ap n (x6.1,x6.2.1,x6.2.2.1,x6.2.2.2.1,x6.2.2.2.2)) λx7=>if !x7 then AI (Sum.inr 3) else G a0 a1 a2 a3 (i64.wrap (a4+1)) else AI (Sum.inl ())
def qg:=lp uU
theorem Dz (n:Nat):qg (n+1)=uU (qg n) n:=rfl
def xE (n:Nat)(a0:Addr):M Int:=lS a0 0 λx0=>sh (w9 none Ep [.bool false] (↑x0.len:Int) (↑x0.len:Int)) λx1=>gL a0 λx2=>lI a0 1 λx3=>sh (qZ n (x2.1,x2.2) x3 x1) λx4=>lS a0 0 λx5=>sh (qg n a0 x1 x5 (↑x5.len:Int) 0) (dW (λx6=>gL a0 λx7=>sh (wG n (x7.1,x7.2)) λx8=>gL a0 λx9=>sh (wI n (x9.1,x9.2)) λdZ=>sh (qf n a0 x8 dZ (↑dZ.len:Int) 0) (dW (λx11=>gL a0 λx12=>sh (ym n (x12.1,x12.2)) λx13=>if x13 then AI 8 else gL a0 λfJ=>sh (vG n (fJ.1,fJ.2)) λx15=>if decide (32<x15.1) then AI 5 else AI 0) (λx11=>AI x11))) (λx6=>AI x6))
def e9 (n:Nat)(a0:Sl×Int):M Int:=nW aj [aA a0.1,vi a0.2] λx0=>lS (ak x0) 0 λx1=>if decide (4096<(↑x1.len:Int)) then AI 7 else lS (ak x0) 0 λx2=>if decide ((↑x2.len:Int)=0) then AI 3 else gL (ak x0) λx3=>sh (vn n (x3.1,x3.2)) λx4=>if !x4 then AI 3 else xE n (ak x0)
abbrev amG (n:Nat):dh:=eN 6 [.agg [.sl,.int .i64]] [au] (e9 n)
abbrev amH:=L2 (bL 351) [(1,aw),(3,bj),(34,bj),(35,au),(36,au)] [] [(2,au)] ([2,4,5]++rG 36 16) 0 .ret qg
abbrev amI:=L2 (bL 1407) [(1,aw),(6,bj),(55,bj),(56,au),(57,au)] [] [(2,au)] ([2,7,8]++rG 57 14) 2 .ret qf
abbrev amJ (n:Nat):List (iB Int):=[jN [0,1,1,1] [.code [1,1,1,1]] [(1,aw)] (xE n)]
def aaE (n:Nat):=amI.k TZp Tryz.f6 n (hT:=λm _=>.m1 (K17 m))
def aaF (n:Nat):=amH.k TZp Tryz.f6 n (hT:=λm _=>.m1 (K17 m))
def Cf (n:Nat):aC TZp (amG n):=aR Tryz.f6 (js:=amJ n) (hT:=⟨.nil,K17 n,.nil,(.cc (aaF n) (.cc (aaE n) .nil)),(.cc .nil)⟩)
structure aP where
 jk:Addr->Addr->Int->θ->Addr->Sl->Int->Int->M Unit
 mY:Int->Addr->Addr->Addr->Addr->Addr->Addr->M Int
def iW (G:aP)(n:Nat)(x:ξ)(a0:Int):M Int:=if nG qq x then sh (mr [aw,aw,aw,aw,aw,aw] x) λ(c:Addr×Addr×Addr×Addr×Addr×Addr)=>G.mY a0 c.1 c.2.1 c.2.2.1 c.2.2.2.1 c.2.2.2.2.1 c.2.2.2.2.2 else AS
abbrev vJ:=iW
def gU (G:aP)(n:Nat)(a0 a1:Addr)(a2:Int)(a3:θ)(a4:Addr)(a5:Int)(a6:Sl)(a7 a8:Int):M Unit:=sh (nn a3) λx0=>lS a4 4 λx1=>sh (dL .raw a0) λ(x2:ξ)=>lS x0 4 λx3=>iX x3 a5 1 λx4=>eI x4 λx5=>sh (tX [some (a4.plus 4)] (vJ G n x2 x5)) λx6=>sh (app true x1 1 al 1 [vi x6]) λx7=>sN (a4.plus 4) [aA x7] λx8=>G.jk a0 a1 a2 a3 a4 a6 a7 (i64.wrap (a8+1))
def qP (G:aP)(n:Nat)(a0 a1:Addr)(a2:Int)(a3:θ)(a4:Addr)(a5:Sl)(a6 a7:Int):M Unit:=if decide (a7<a6) then iX a5 a7 1 λx0=>eI x0 λx1=>sh (nn a3) λx2=>lI x2 0 λx3=>if decide (x3=10) then sh (nn a3) λx4=>lS a4 3 λx5=>sh (dL .raw a0) λ(x6:ξ)=>lS x4 3 λx7=>iX x7 x1 1 λx8=>eI x8 λx9=>sh (tX [some (a4.plus 3)] (iW G n x6 x9)) λdZ=>sh (app true x5 1 al 1 [vi dZ]) λx11=>sN (a4.plus 3) [aA x11] λx12=>gU G n a0 a1 a2 a3 a4 x1 a5 a6 a7 else gU G n a0 a1 a2 a3 a4 x1 a5 a6 a7 else AI ()
def uV (G:aP)(n:Nat)(a0:Int)(a1 a2 a3 a4 a5 a6:Addr):M Int:=eS a1 λx0=>iX x0 a0 1 λx1=>eI x1 λx2=>if decide (0<=x2) then eS a1 λx3=>iX x3 a0 1 λx4=>eI x4 λx5=>AI x5 else eI a2 λx3=>eS a1 λx4=>iX x4 a0 1 λx5=>sN x5 [vi x3] λx6=>eI a2 λx7=>sN a2 [vi (i64.wrap (x7+1))] λx8=>lS a3 0 λx9=>iX x9 a0 5 λdZ=>sh (dP 15) λx11=>sh (nn (some dZ)) λx12=>sh (nn (some dZ)) λx13=>sh (nn (some dZ)) λfJ=>lI x12 0 λx15=>lT x13 1 λsK=>lB fJ 2 λx17=>sh (iI (some (x11+13)) av [vi 0,.string (ofBytes []),.bool false,aE,aE]) λuy=>sN (ak uy) [vi x15,.string sK,.bool x17,aE,aE] λx19=>sh (dL .ptr a4) λ(x20:θ)=>sh (cS n x20 a0) λx21=>sh (G.jk a5 a6 x3 (some dZ) (ak uy) x21 (↑x21.len:Int) 0) λx22=>lS a6 0 λx23=>nL (ak uy) λx24=>iX x23 x3 5 λx25=>sN x25 [vi x24.1,.string x24.2.1,.bool x24.2.2.1,aA x24.2.2.2.1,aA x24.2.2.2.2] λx26=>AI x3
def aP.at:Nat->aP|0=>⟨λ_ _ _ _ _ _ _ _=>AS,λ_ _ _ _ _ _ _=>AS⟩|n+1=>⟨qP (aP.at n) n,uV (aP.at n) n⟩
def jk (n:Nat):=(aP.at n).jk
def mY (n:Nat):=(aP.at n).mY
def EL (n:Nat):=iW (aP.at n) n
def EM (n:Nat):=vJ (aP.at n) n
def Cg (n:Nat):=gU (aP.at n) n
abbrev Ux (n:Nat):dh:=eN 42 [au,aw,aw,aw,aw,aw,aw] [au] (mY n)
abbrev ajU:=L1 (bL 1407) [(5,aw),(6,aw),(9,au),(10,wV),(11,aw),(49,bj),(50,au),(51,au)] [] ([13]++rG 51 38) 0 jk
abbrev C18 (n:Nat):List dh:=Ux n::C17 n
abbrev ajV (n:Nat):List nH:=[dN 62 [au] [au] (EL n), dN 76 [au] [au] (EM n)]
def aaG:=dR [(7,[0,1,2,4,5,6,8,9,10,3,7,11,12,13,14]),(12,[0,3,4,5,7,1,2,6,8,9,2010,11,12,13,14]),(13,[0,3,4,5,7,1,2,6,8,9,2010,11,12,13,14])]
abbrev Xi (n:Nat):List (iB Unit):=[jN (bL 235903) [.ar 1,.code (bL 31103)] [(5,aw),(6,aw),(9,au),(10,wV),(11,aw),(13,au),(49,bj),(50,au),(51,au)] (Cg n)]
def j7 (n:Nat):Prop:=aC TZp (Ux n)
def aaH (n:Nat)(H:j7 n):cV TZp (C18 n):=.cons H (K17 n)
def aaI (n:Nat)(H:j7 n):ni TZp (ajV n):=.cons (bB (.cons (ke [aw,aw,aw,aw,aw,aw] (H)) .nil)) (.cons (bB (.cons (ke [aw,aw,aw,aw,aw,aw] (H)) .nil)) .nil)
def Xj (n:Nat)(H:Hy j7 n):=ajU.k TZp Tryz.f42 n (dr:=aaG) (jt:=Xi) (hT:=λm hm=>⟨.nil,aaH m ((H.d hm).s),(aaI m ((H.d hm).s)),.nil,(.cc .nil)⟩)
def Ar (n:Nat)(H:Hy j7 n):aC TZp (Ux (n+1)):=aR Tryz.f42 (dr:=aaG) (hT:=⟨.nil,aaH n (H.s),(aaI n (H.s)),(.cc (Xj n H) .nil),.nil⟩)
def vK (n:Nat):j7 n:=FF (Q:=j7) (eE Tryz.f42) Ar n
def FZ (n:Nat):aC TZp (Ux n):=(vK n)
def K18 (n:Nat):cV TZp (C18 n):=aaH n (vK n)
structure aU where
 iY:θ->θ->θ->ζ->Sl->Int->Int->M Unit
 gV:θ->θ->Int->M Unit
def kV (G:aU)(n:Nat)(a0 a1 a2:θ)(a3:ζ)(a4:Int)(a5:Sl)(a6 a7:Int):M Unit:=sh (nn a2) λx0=>lS x0 4 λx1=>iX x1 a4 1 λx2=>eI x2 λx3=>sh (G.gV a0 a1 x3) λx4=>G.iY a0 a1 a2 a3 a5 a6 (i64.wrap (a7+1))
def kW (G:aU)(n:Nat)(a0 a1 a2:θ)(a3:ζ)(a4:Int)(a5:Sl)(a6 a7:Int):M Unit:=sh (nn a2) λx0=>lI x0 0 λx1=>if decide (x1=10) then sh (nn a2) λx2=>lS x2 3 λx3=>iX x3 a4 1 λx4=>eI x4 λx5=>sh (G.gV a0 a1 x5) λx6=>sh (aL n a1 61) λx7=>kV G n a0 a1 a2 a3 a4 a5 a6 a7 else kV G n a0 a1 a2 a3 a4 a5 a6 a7
def As (G:aU)(n:Nat)(a0 a1 a2:θ)(a3:ζ)(a4:Sl)(a5 a6:Int):M Unit:=if decide (a6<a5) then iX a4 a6 1 λx0=>eI x0 λx1=>if decide (0<a6) then sh (aL n a1 44) λx2=>kW G n a0 a1 a2 a3 x1 a4 a5 a6 else kW G n a0 a1 a2 a3 x1 a4 a5 a6 else AI ()
def jW (G:aU)(n:Nat)(a0 a1:θ)(a2:Int)(a3:θ)(a4:ζ):M Unit:=sh (lj a4 0) λx0=>sh (aL n a1 (↑x0.toNat:Int)) λx1=>sh (cS n a0 a2) λx2=>sh (G.iY a0 a1 a3 a4 x2 (↑x2.len:Int) 0) λx3=>sh (lj a4 1) λx4=>sh (aL n a1 (↑x4.toNat:Int)) λx5=>AI ()
def DA (G:aU)(n:Nat)(a0 a1:θ)(a2:Int):M Unit:=sh (nn a0) λx0=>lS (x0.plus 0) 0 λx1=>iX x1 a2 5 λx2=>sh (nn (some x2)) λx3=>lI x3 0 λx4=>if decide (x4=11) then sh (nn (some x2)) λx5=>lT x5 1 λx6=>sh (kc (ofBytes [33]) x6) λx7=>sh (kc x7 (ofBytes [40])) λx8=>sh (jT n a1 x8) λx9=>sh (nn (some x2)) λdZ=>lS dZ 4 λx11=>iX x11 0 1 λx12=>eI x12 λx13=>sh (G.gV a0 a1 x13) λfJ=>sh (aL n a1 41) λx15=>AI () else sh (nn (some x2)) λx5=>lI x5 0 λx6=>if decide (x6<9) then sh (EJ n (some x2)) λx7=>sh (jT n a1 x7) λx8=>AI () else sh (nn (some x2)) λx7=>lI x7 0 λx8=>if decide (x8=10) then sh (nn (some x2)) λx9=>lB x9 2 λdZ=>if dZ then jW G n a0 a1 a2 (some x2) (ofBytes [60,62]) else jW G n a0 a1 a2 (some x2) (ofBytes [123,125]) else jW G n a0 a1 a2 (some x2) (ofBytes [91,93])
def aU.at:Nat->aU|0=>⟨λ_ _ _ _ _ _ _=>AS,λ_ _ _=>AS⟩|n+1=>⟨As (aU.at n) n,DA (aU.at n) n⟩
def iY (n:Nat):=(aU.at n).iY
def gV (n:Nat):=(aU.at n).gV
def zp (n:Nat):=kW (aU.at n) n
def zq (n:Nat):=kV (aU.at n) n
def Ch (n:Nat):=jW (aU.at n) n
abbrev aaJ (n:Nat):dh:=eN 64 [wV,wV,au] [] (gV n)
abbrev ajW:=L1 (bL 351) [(0,wV),(1,wV),(6,wV),(7,pF),(67,bj),(68,au),(69,au)] [] ([8,9]++rG 69 37) 1 iY
abbrev C19 (n:Nat):List dh:=aaJ n::C18 n
abbrev Xk (n:Nat):List (iB Unit):=[jN (bL 157279) [.code (bL 222815),.code (bL 124511),.ar 2,.code (bL 7775)] [(0,wV),(1,wV),(6,wV),(7,pF),(9,au),(67,bj),(68,au),(69,au)] (zp n), jN (bL 124511) [.ar 2,.code (bL 7775)] [(0,wV),(1,wV),(6,wV),(7,pF),(9,au),(67,bj),(68,au),(69,au)] (zq n)]
abbrev ajX (n:Nat):List (iB Unit):=[jN [0,1,1,1,1] [.code [1,1,1,1,1]] [(0,wV),(1,wV),(2,au),(6,wV),(7,pF)] (Ch n)]
def jL (n:Nat):Prop:=aC TZp (aaJ n)
def aaK (n:Nat)(H:jL n):cV TZp (C19 n):=.cons H (K18 n)
def Xl (n:Nat)(H:Hy jL n):=ajW.k TZp Tryz.f64 n (jt:=Xk) (hT:=λm hm=>.m3 (aaK m ((H.d hm).s)) (.cc (.cc .nil)))
def xX (n:Nat)(H:Hy jL n):aC TZp (aaJ (n+1)):=aR Tryz.f64 (js:=ajX n) (hT:=⟨.nil,aaK n (H.s),.nil,(.cc (Xl n H) .nil),(.cc .nil)⟩)
def zr (n:Nat):jL n:=FF (Q:=jL) (eE Tryz.f64) xX n
def K19 (n:Nat):cV TZp (C19 n):=aaK n (zr n)
abbrev C20 (n:Nat):List dh:=amG n::C19 n
def K20 (n:Nat):cV TZp (C20 n):=.cons (Cf n) (K19 n)
def yu (n:Nat)(a0:Sl×Int):M (Int×Bool):=nW aj [aA a0.1,vi a0.2] λx0=>gL (ak x0) λx1=>sh (e9 n (x1.1,x1.2)) λx2=>if !decide (x2=0) then AI (0,false) else gL (ak x0) λx3=>sh (vG n (x3.1,x3.2)) λx4=>AI (x4.1,x4.2)
abbrev ahj (n:Nat):dh:=eN 75 [.agg [.sl,.int .i64]] [au,jc] (yu n)
def Ki (n:Nat):aC TZp (ahj n):=aR Tryz.f75 (hT:=.m1 (K20 n))
def uW (n:Nat)(x:ξ)(a0:Int):M Int:=if nG qq x then sh (mr [aw,aw,aw,aw,aw,aw] x) λ(c:Addr×Addr×Addr×Addr×Addr×Addr)=>mY n a0 c.1 c.2.1 c.2.2.1 c.2.2.2.1 c.2.2.2.2.1 c.2.2.2.2.2 else AS
def tL:uv (Addr->Addr->Addr->Addr->Int->Int->M Unit):=λG n a0 a1 a2 a3 a4 a5=>if decide (a5<a4) then eS a3 λx0=>iX x0 a5 1 λx1=>sN x1 [vi (-1)] λx2=>G a0 a1 a2 a3 a4 (i64.wrap (a5+1)) else AI ()
def oQ:=lp tL
theorem Ci (n:Nat):oQ (n+1)=tL (oQ n) n:=rfl
def wM (n:Nat)(a0:Sl×Int):M (Sl×Int):=nW aj [aA a0.1,vi a0.2] λx0=>nW aj [aE,vi 0] λx1=>gL (ak x0) λx2=>sh (th n (x2.1,x2.2)) λx3=>nW bA [.pointer none] λx4=>sN (ak x4) [.pointer x3] λx5=>lS (ak x0) 0 λx6=>sh (w9 none al [vi 0] (↑x6.len:Int) (↑x6.len:Int)) λx7=>nW aF [aE] λx8=>sN (ak x8) [aA x7] λx9=>sh (dL .sl (ak x8)) λ(dZ:Sl)=>sh (oQ n (ak x0) (ak x1) (ak x4) (ak x8) (↑dZ.len:Int) 0) λx11=>lS (ak x0) 0 λx12=>sh (w9 none av [vi 0,.string (ofBytes []),.bool false,aE,aE] (↑x12.len:Int) (↑x12.len:Int)) λx13=>nW aj [aE,vi 0] λfJ=>sN (ak fJ) [aA x13,vi 0] λx15=>nW al [vi 0] λsK=>sN (ak sK) [vi 0] λx17=>nW iK [Value.nilFunc] λuy=>sN (ak uy) [.func (Fn.func qq) #[] #[.pointer (some (ak x8)),.pointer (some (ak sK)),.pointer (some (ak x0)),.pointer (some (ak x4)),.pointer (some (ak uy)),.pointer (some (ak fJ))]] λx19=>sh (dL .raw (ak uy)) λ(x20:ξ)=>lI (ak x0) 1 λx21=>sh (uW n x20 x21) λx22=>gL (ak fJ) λx23=>sN (ak x1) [aA x23.1,vi x23.2] λx24=>gL (ak x1) λx25=>AI (x25.1,x25.2)
abbrev ahk (n:Nat):dh:=eN 26 [.agg [.sl,.int .i64]] [.agg [.sl,.int .i64]] (wM n)
abbrev ajY:=L1 (bL 87) [(1,aw),(2,aw),(3,aw),(4,aw),(16,au),(17,au)] [] ([5]++rG 17 7) 0 oQ
abbrev ajZ (n:Nat):List nH:=[dN 30 [au] [au] (uW n)]
def aaL (n:Nat):ni TZp (ajZ n):=.cons (bB (.cons (ke [aw,aw,aw,aw,aw,aw] (FZ n)) .nil)) .nil
def Xm (n:Nat):=ajY.k TZp Tryz.f26 n (hT:=λm _=>⟨.nil,K20 m,(aaL m),.nil,.nil⟩)
def IB (n:Nat):aC TZp (ahk n):=aR Tryz.f26 (hT:=⟨.nil,K20 n,(aaL n),(.cc (Xm n) .nil),.nil⟩)
abbrev C21 (n:Nat):List dh:=ahj n::ahk n::C20 n
def K21 (n:Nat):cV TZp (C21 n):=.cons (Ki n) (.cons (IB n) (K20 n))
def o0 (n:Nat)(a0:Sl×Int):M Int:=nW aj [aA a0.1,vi a0.2] λx0=>gL (ak x0) λx1=>sh (e9 n (x1.1,x1.2)) λx2=>if !decide (x2=0) then AI 3 else gL (ak x0) λx3=>sh (yu n (x3.1,x3.2)) λx4=>if !x4.2 then AI 14 else AI 0
abbrev ahl (n:Nat):dh:=eN 59 [.agg [.sl,.int .i64]] [au] (o0 n)
def Hi (n:Nat):aC TZp (ahl n):=aR Tryz.f59 (hT:=.m1 (K21 n))
def qF (n:Nat)(a0:Sl×Int):M ((Sl×Int)×Int):=nW aj [aA a0.1,vi a0.2] λx0=>nW aj [aE,vi 0] λx1=>gL (ak x0) λx2=>sh (e9 n (x2.1,x2.2)) λx3=>if !decide (x3=0) then sN (ak x1) [aE,vi 0] λx4=>gL (ak x1) λx5=>AI ((x5.1,x5.2),3) else gL (ak x0) λx4=>sh (wM n (x4.1,x4.2)) λx5=>sN (ak x1) [aA x5.1,vi x5.2] λx6=>gL (ak x1) λx7=>AI ((x7.1,x7.2),0)
abbrev ahm (n:Nat):dh:=eN 10 [.agg [.sl,.int .i64]] [.agg [.sl,.int .i64],au] (qF n)
def AO (n:Nat):aC TZp (ahm n):=aR Tryz.f10 (hT:=.m1 (K21 n))
end Go.Sh
