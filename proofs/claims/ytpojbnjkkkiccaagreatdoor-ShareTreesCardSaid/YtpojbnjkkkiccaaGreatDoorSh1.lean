
import Derived.Test.YtpojbnjkkkiccaaGreatDoorMo
set_option linter.all false
set_option maxRecDepth 100000
set_option maxHeartbeats 0
namespace Go.Sh
open Go Go.Ago Go.Proofs Go.IntKind
abbrev C22 (n:Nat):List dh:=ahl n::ahm n::C21 n
def K22 (n:Nat):cV TZp (C22 n):=.cons (Hi n) (.cons (AO n) (K21 n))
def uX (n:Nat)(a0 a1:Addr):M (Int×Int):=sh (dP 12) λx0=>gL a0 λx1=>lI a0 1 λx2=>gL a1 λx3=>lI a1 1 λx4=>sh (sP (x0+8) wX) λx5=>sh (tX [some (a0.plus 1),some a1,some (a1.plus 1)] (th n (x1.1,x1.2))) λx6=>sh (tX [some (a0.plus 1),some (a1.plus 1)] (th n (x3.1,x3.2))) λx7=>sh (gJ n x6 x2 x7 x4 (some x5)) λx8=>AI (x8,0)
def vu (n:Nat)(a0 a1:Sl×Int):M (Int×Int):=nW aj [aA a0.1,vi a0.2] λx0=>nW aj [aA a1.1,vi a1.2] λx1=>gL (ak x0) λx2=>sh (e9 n (x2.1,x2.2)) λx3=>if !decide (x3=0) then AI (0,3) else gL (ak x1) λx4=>sh (e9 n (x4.1,x4.2)) λx5=>if !decide (x5=0) then AI (0,3) else gL (ak x0) λx6=>sh (o0 n (x6.1,x6.2)) λx7=>if !decide (x7=0) then AI (0,14) else gL (ak x1) λx8=>sh (o0 n (x8.1,x8.2)) λx9=>if !decide (x9=0) then AI (0,14) else uX n (ak x0) (ak x1)
abbrev ahn (n:Nat):dh:=eN 40 [.agg [.sl,.int .i64],.agg [.sl,.int .i64]] [au,au] (vu n)
def aj0:=dR [(5,[2,6,0,3,4,7,8,8005004001,8004005,9,10,11])]
abbrev aj1 (n:Nat):List (iB (Int×Int)):=[jN [0,1,1,1] [.code [1,1,1,1]] [(2,aw),(3,aw)] (uX n)]
def Hj (n:Nat):FB (C22 n) [41]:=FB.one (e:=ZL n) (λx=>LK n x) (JM (by kernel_rfl))
def Hk (n:Nat):aC TZp (ahn n):=aR Tryz.f40 (dr:=aj0) (js:=aj1 n) (hT:=⟨(Hj n),K22 n,.nil,.nil,(.cc .nil)⟩)
def xF (n:Nat)(x:ξ)(a0:Int):M Int:=if nG rR x then sh (mr [aw,aw,aw,aw,aw,aw,aw] x) λ(c:Addr×Addr×Addr×Addr×Addr×Addr×Addr)=>mU n a0 c.1 c.2.1 c.2.2.1 c.2.2.2.1 c.2.2.2.2.1 c.2.2.2.2.2.1 c.2.2.2.2.2.2 else AS
def DB:uv (Addr->Addr->Addr->Addr->Addr->Sl->Int->Int->M Unit):=λG n a0 a1 a2 a3 a4 a5 a6 a7=>if decide (a7<a6) then iX a5 a7 1 λx0=>eI x0 λx1=>sh (dL .mp a4) λ(x2:μ)=>eS a2 λx3=>iX x3 x1 1 λx4=>eI x4 λx5=>sh (vx al (Ty.one li) 0 x2 (vi x5)) λ(x6:Bool×Int)=>if !x6.1 then sh (dL .mp a4) λ(x7:μ)=>eS a2 λx8=>iX x8 x1 1 λx9=>eI x9 λdZ=>sh (DP al x7 (vi dZ) (vi x1)) λx11=>G a0 a1 a2 a3 a4 a5 a6 (i64.wrap (a7+1)) else G a0 a1 a2 a3 a4 a5 a6 (i64.wrap (a7+1)) else AI ()
def yw:=lp DB
def Cj (n:Nat)(a0:Sl×Int)(a1 a2 a3:Sl):M ((Sl×Int)×Int):=nW aj [aA a0.1,vi a0.2] λx0=>nW nB [aA a2] λx1=>nW aF [aA a3] λx2=>nW aj [aE,vi 0] λx3=>sh (Bs al) λx4=>nW FM [.map none] λx5=>sN (ak x5) [.map (some x4)] λx6=>sh (yw n (ak x0) (ak x1) (ak x2) (ak x3) (ak x5) a1 (↑a1.len:Int) 0) λx7=>nW aj [aE,vi 0] λx8=>sh (Bs al) λx9=>nW FM [.map none] λdZ=>sN (ak dZ) [.map (some x9)] λx11=>nW iK [Value.nilFunc] λx12=>sN (ak x12) [.func (Fn.func rR) #[] #[.pointer (some (ak dZ)),.pointer (some (ak x2)),.pointer (some (ak x5)),.pointer (some (ak x8)),.pointer (some (ak x0)),.pointer (some (ak x1)),.pointer (some (ak x12))]] λx13=>sh (dL .raw (ak x12)) λ(fJ:ξ)=>lI (ak x0) 1 λx15=>sh (xF n fJ x15) λsK=>sN ((ak x8).plus 1) [vi sK] λx17=>gL (ak x8) λuy=>sh (qF n (uy.1,uy.2)) λx19=>sN (ak x3) [aA x19.1.1,vi x19.1.2] λx20=>gL (ak x3) λx21=>AI ((x21.1,x21.2),x19.2)
abbrev aho (n:Nat):dh:=eN 28 [.agg [.sl,.int .i64],bj,bj,bj] [.agg [.sl,.int .i64],au] (Cj n)
abbrev aj2:=L1 [0,1,0,1,1] [(4,aw),(6,aw),(7,aw),(8,aw),(10,aw),(19,bj),(20,au),(21,au)] [] ([12,13,14]++rG 21 22) 0 yw
abbrev aj3 (n:Nat):List nH:=[dN 45 [au] [au] (xF n)]
def aaN:=dR [(5,[2,0,1]++rG 3 8),(7,[2,5,0,1,3,4,6])]
def aaO (n:Nat):ni TZp (aj3 n):=.cons (bB (.cons (ke [aw,aw,aw,aw,aw,aw,aw] (Dx n)) .nil)) .nil
def Xn (n:Nat):=aj2.k TZp Tryz.f28 n (dr:=aaN) (hT:=λm _=>⟨.nil,K22 m,(aaO m),.nil,.nil⟩)
def F3 (n:Nat):aC TZp (aho n):=aR Tryz.f28 (dr:=aaN) (hT:=⟨.nil,K22 n,(aaO n),(.cc (Xn n) .nil),.nil⟩)
def Kj:uv (Addr->θ->Sl->Int->Int->M Unit):=λG n a0 a1 a2 a3 a4=>if decide (a4<a3) then iX a2 a4 1 λx0=>sN x0 [vi (-1)] λx1=>G a0 a1 a2 a3 (i64.wrap (a4+1)) else AI ()
def F4:=lp Kj
def Mk (n:Nat)(a0:Sl×Int):M (ζ×Int):=nW aj [aA a0.1,vi a0.2] λx0=>gL (ak x0) λx1=>sh (o0 n (x1.1,x1.2)) λx2=>if !decide (x2=0) then AI ((ofBytes []),x2) else gL (ak x0) λx3=>sh (th n (x3.1,x3.2)) λx4=>lS (ak x0) 0 λx5=>sh (w9 none al [vi 0] (↑x5.len:Int) (↑x5.len:Int)) λx6=>sh (F4 n (ak x0) x4 x6 (↑x6.len:Int) 0) λx7=>lI (ak x0) 1 λx8=>sh (fZ n x4 x8 x6) λx9=>if decide (65536<x9) then AI ((ofBytes []),6) else nW s6 [.pointer none,aE] λdZ=>lI (ak x0) 1 λx11=>sh (gV n x4 (some (ak dZ)) x11) λx12=>sh (nS n (some (ak dZ))) λx13=>AI (x13,0)
abbrev ahp (n:Nat):dh:=eN 45 [.agg [.sl,.int .i64]] [pF,au] (Mk n)
abbrev aj4:=L1 (bL 175) [(1,aw),(5,wV),(6,bj),(21,au),(22,au)] [] ([7]++rG 22 7) 0 F4
def Xo (n:Nat):=aj4.k TZp Tryz.f45 n (hT:=λm _=>.m1 (K22 m))
def NL (n:Nat):aC TZp (ahp n):=aR Tryz.f45 (hT:=.m2 (K22 n) (.cc (Xo n) .nil))
abbrev C23 (n:Nat):List dh:=ahn n::aho n::ahp n::C22 n
def K23 (n:Nat):cV TZp (C23 n):=.cons (Hk n) (.cons (F3 n) (.cons (NL n) (K22 n)))
def xG (n:Nat)(a0 a1:Int)(a2:Addr):M Bool:=eS a2 λx0=>iX x0 a0 2 λx1=>gL x1 λx2=>eS a2 λx3=>iX x3 a1 2 λx4=>gL x4 λx5=>sh (vu n (x2.1,x2.2) (x5.1,x5.2)) λx6=>AI (decide (x6.1<0))
abbrev ahq (n:Nat):dh:=eN 39 [au,au,aw] [jc] (xG n)
def aj5:=dR [(1,[1,5,0,2,3,4]++rG 6 8)]
def yx (n:Nat):aC TZp (ahq n):=aR Tryz.f39 (dr:=aj5) (hT:=.m1 (K23 n))
def yy (n:Nat)(x a0:ξ):M Int:=if nG pH x then sh (mr [aw,aw,aw] x) λ(c:Addr×Addr×Addr)=>v7 n a0 c.1 c.2.1 c.2.2 else AS
def yz (n:Nat)(x a0:ξ):M Int:=if nG pH x then sh (mr [aw,aw,aw] x) λ(c:Addr×Addr×Addr)=>v7 n a0 c.1 c.2.1 c.2.2 else AS
def EN:uv (Addr->Addr->Addr->Addr->Int->Addr->ζ->Sl->Int->Int->Sl->Int->Int->M ζ):=λG n a0 a1 a2 a3 a4 a5 a6 a7 a8 a9 a10 a11 a12=>if decide (a12<a11) then iX a10 a12 1 λx0=>eI x0 λx1=>sh (kc a6 (ofBytes [124])) λx2=>lI a5 0 λx3=>if decide (x3=10) then gL a0 λx4=>lS a5 3 λx5=>iX x5 x1 1 λx6=>eI x6 λx7=>sh (wY n (x4.1,x4.2) x7) λx8=>sh (Mk n (x8.1,x8.2)) λx9=>sh (kc x2 x9.1) λdZ=>G a0 a1 a2 a3 a4 a5 dZ a7 a8 a9 a10 a11 (i64.wrap (a12+1)) else G a0 a1 a2 a3 a4 a5 x2 a7 a8 a9 a10 a11 (i64.wrap (a12+1)) else AI a6
def zu:=lp EN
def EO:uv (Addr->Addr->Addr->ξ->Int->M Unit):=λG n a0 a1 a2 a3 a4=>sh (yz n a3 (Value.func (Fn.func yh) #[] #[.pointer (some a2),.pointer (some a1),.pointer (some a0)])) λx0=>if decide (x0=a4) then AI () else G a0 a1 a2 a3 x0
def zw:=lp EO
abbrev xH:=Addr->Addr->Addr->Addr->Sl->Int->Int->M Unit
def pB (G:xH)(n:Nat)(a0 a1 a2 a3:Addr)(a4:Int)(a5:Addr)(a6:ζ)(a7:Sl)(a8 a9:Int):M Unit:=eS a2 λx0=>iX x0 a4 1 λx1=>eS x1 λx2=>sh (zu n a0 a1 a2 a3 a4 a5 a6 a7 a8 a9 x2 (↑x2.len:Int) 0) λx3=>eS a3 λx4=>iX x4 a4 1 λx5=>sN x5 [.string x3] λx6=>G a0 a1 a2 a3 a7 a8 (i64.wrap (a9+1))
def EP:uv (xH):=λG n a0 a1 a2 a3 a4 a5 a6=>if decide (a6<a5) then iX a4 a6 1 λx0=>eI x0 λx1=>lS a0 0 λx2=>iX x2 x1 5 λx3=>nL x3 λx4=>nW av [vi 0,.string (ofBytes []),.bool false,aE,aE] λx5=>sN (ak x5) [vi x4.1,.string x4.2.1,.bool x4.2.2.1,aA x4.2.2.2.1,aA x4.2.2.2.2] λx6=>lI (ak x5) 0 λx7=>lT (ak x5) 1 λx8=>sh (kc (OH (IntKind.i32.wrap (i64.wrap (97+x7)))) x8) λx9=>sh (kc x9 (ofBytes [0])) λdZ=>lB (ak x5) 2 λx11=>if x11 then sh (kc dZ (ofBytes [111])) λx12=>pB G n a0 a1 a2 a3 x1 (ak x5) x12 a4 a5 a6 else pB G n a0 a1 a2 a3 x1 (ak x5) dZ a4 a5 a6 else AI ()
def uY:=lp EP
def DC (n:Nat):=pB (uY n) n
def D1 (n:Nat)(a0:Sl×Int)(a1 a2:Sl):M Sl:=nW aj [aA a0.1,vi a0.2] λx0=>nW aF [aA a1] λx1=>nW nB [aA a2] λx2=>lS (ak x0) 0 λx3=>sh (w9 none vD [.string (ofBytes [])] (↑x3.len:Int) (↑x3.len:Int)) λx4=>nW PU [aE] λx5=>sN (ak x5) [aA x4] λx6=>sh (dL .sl (ak x1)) λ(x7:Sl)=>sh (uY n (ak x0) (ak x1) (ak x2) (ak x5) x7 (↑x7.len:Int) 0) λx8=>lS (ak x0) 0 λx9=>sh (w9 none al [vi 0] (↑x9.len:Int) (↑x9.len:Int)) λdZ=>nW aF [aE] λx11=>sN (ak x11) [aA dZ] λx12=>sh (yy n (Value.func (Fn.func pH) #[] #[.pointer (some (ak x0)),.pointer (some (ak x1)),.pointer (some (ak x11))]) (Value.func (Fn.func yg) #[] #[.pointer (some (ak x5))])) λx13=>sh (zw n (ak x0) (ak x2) (ak x11) (Value.func (Fn.func pH) #[] #[.pointer (some (ak x0)),.pointer (some (ak x1)),.pointer (some (ak x11))]) x13) λfJ=>sh (dL .sl (ak x11)) λ(x15:Sl)=>AI x15
abbrev ahr (n:Nat):dh:=eN 29 [.agg [.sl,.int .i64],bj,bj] [bj] (D1 n)
abbrev aj6:=L1 [0,1,0,1,1] [(3,aw),(4,aw),(5,aw),(7,aw),(24,bj),(25,au),(26,au)] [] ([9,10,11,13,14,15]++rG 26 56) 0 uY
abbrev aj7:=L1 (bL 179403) [(3,aw),(4,aw),(5,aw),(7,aw),(9,au),(10,aw),(11,pF),(24,bj),(25,au),(26,au),(51,bj),(52,au),(53,au)] [(11,pF)] ([11,13,14,15]++rG 53 24) 2 zu
abbrev aj8:=L1 (bL 319) [(3,aw),(5,aw),(16,aw),(17,sH),(18,au)] [] ([18,19]++rG 90 7) 4 zw
abbrev aj9 (n:Nat):List nH:=[dN 87 [sH] [au] (yy n), dN 90 [sH] [au] (yz n)]
def NM:=dR [(14,[1,3,0,2]++rG 4 9)]
abbrev Xp (n:Nat):List (iB Unit):=[jN (bL 81099) [.code (bL 113867),.code (bL 64715),.ar 1,.code (bL 971)] [(3,aw),(4,aw),(5,aw),(7,aw),(9,au),(10,aw),(11,pF),(24,bj),(25,au),(26,au)] (DC n)]
def NN (n:Nat):ni TZp (aj9 n):=.cons (bB (.cons (ke [aw,aw,aw] (rY n)) .nil)) (.cons (bB (.cons (ke [aw,aw,aw] (rY n)) .nil)) .nil)
def Xq (n:Nat):=aj7.k TZp Tryz.f29 n (dr:=NM) (hT:=λm _=>⟨.nil,K23 m,(NN m),.nil,.nil⟩)
def Xr (n:Nat):=aj8.k TZp Tryz.f29 n (dr:=NM) (hT:=λm _=>⟨.nil,K23 m,(NN m),.nil,.nil⟩)
def Xs (n:Nat):=aj6.k TZp Tryz.f29 n (dr:=NM) (jt:=Xp) (hT:=λm _=>⟨.nil,K23 m,(NN m),(.cc (Xq m) .nil),(.cc .nil)⟩)
def Hl (n:Nat):aC TZp (ahr n):=aR Tryz.f29 (dr:=NM) (hT:=⟨.nil,K23 n,(NN n),(.cc (Xs n) (.cc (Xr n) .nil)),.nil⟩)
abbrev C24 (n:Nat):List dh:=ahq n::ahr n::C23 n
def K24 (n:Nat):cV TZp (C24 n):=.cons (yx n) (.cons (Hl n) (K23 n))
structure bM where
 iZ:Sl->ξ->Sl->Sl->Int->Int->M Unit
 nE:Sl->ξ->M Unit
def tM (G:bM)(n:Nat)(x:ξ)(a0 a1:Int):M Bool:=if nG uD x then sh (mr [aw] x) λ(c:Addr)=>xG n a0 a1 c else AS
def jM (G:bM)(n:Nat)(a0:Sl)(a1:ξ)(a2 a3:Sl)(a4 a5 a6:Int):M Unit:=iX a2 0 1 λx0=>eI x0 λx1=>iX a0 a4 1 λx2=>sh (iM a2 1 (↑a2.len:Int) al 1) λx3=>sh (tX [a2.a] (rN x2 [vi x1])) λx4=>G.iZ a0 a1 x3 a3 a5 (i64.wrap (a6+1))
def jO (G:bM)(n:Nat)(a0:Sl)(a1:ξ)(a2 a3:Sl)(a4 a5 a6:Int):M Unit:=iX a3 0 1 λx0=>eI x0 λx1=>iX a0 a4 1 λx2=>sh (iM a3 1 (↑a3.len:Int) al 1) λx3=>sh (tX [a3.a] (rN x2 [vi x1])) λx4=>G.iZ a0 a1 a2 x3 a5 (i64.wrap (a6+1))
def uZ (G:bM)(n:Nat)(a0:Sl)(a1:ξ)(a2 a3:Sl)(a4 a5:Int):M Unit:=if decide (a5<a4) then if decide ((↑a3.len:Int)=0) then jM G n a0 a1 a2 a3 a5 a4 a5 else if decide (0<(↑a2.len:Int)) then iX a3 0 1 λx0=>iX a2 0 1 λx1=>eI x0 λx2=>eI x1 λx3=>sh (tM G n a1 x2 x3) λx4=>if !x4 then jM G n a0 a1 a2 a3 a5 a4 a5 else jO G n a0 a1 a2 a3 a5 a4 a5 else jO G n a0 a1 a2 a3 a5 a4 a5 else AI ()
def yU (G:bM)(n:Nat)(a0:Sl)(a1:ξ):M Unit:=if decide ((↑a0.len:Int)<2) then AI () else nW al [] λx0=>sh (pD (decide (2≠0))) λx1=>sh (iM a0 0 (i64.wrap ((↑a0.len:Int).tdiv 2)) al 1) λx2=>sh (Jd x2 1) λx3=>sh (app false { a:=some (ak x0),len:=0,cap:=1 } 1 3 x2.len x3) λx4=>nW al [] λx5=>sh (pD (decide (2≠0))) λx6=>sh (iM a0 (i64.wrap ((↑a0.len:Int).tdiv 2)) (↑a0.len:Int) al 1) λx7=>sh (Jd x7 1) λx8=>sh (app false { a:=some (ak x5),len:=0,cap:=1 } 1 3 x7.len x8) λx9=>sh (G.nE x4 a1) λdZ=>sh (G.nE x9 a1) λx11=>sh (G.iZ a0 a1 x4 x9 (↑a0.len:Int) 0) λx12=>AI ()
def bM.at:Nat->bM|0=>⟨λ_ _ _ _ _ _=>AS,λ_ _=>AS⟩|n+1=>⟨uZ (bM.at n) n,yU (bM.at n) n⟩
def iZ (n:Nat):=(bM.at n).iZ
theorem DE (n:Nat):iZ (n+1)=uZ (bM.at n) n:=rfl
def nE (n:Nat):=(bM.at n).nE
theorem Hm (n:Nat):nE (n+1)=yU (bM.at n) n:=rfl
def oR (n:Nat):=tM (bM.at n) n
def F5 (n:Nat):=jO (bM.at n) n
def F6 (n:Nat):=jM (bM.at n) n
abbrev aaP (n:Nat):dh:=eN 38 [bj,sH] [] (nE n)
abbrev aka:=L1 (bL 191) [(0,bj),(1,sH),(4,bj),(5,bj),(31,au),(32,au)] [] ([4,5,6]++rG 32 39) 0 iZ
abbrev C25 (n:Nat):List dh:=aaP n::C24 n
abbrev akb (n:Nat):List nH:=[dN 43 [au,au] [jc] (oR n)]
def aaQ:=dR [(8,rG 0 11++[12,13,11]++rG 14 5),(9,[0,1,2,3,5,4,7,6,7008,9]),(10,[0,1,2,3,5,4,7,6,7008,9])]
abbrev Xt (n:Nat):List (iB Unit):=[jN (bL 62271) [.ar 1,.code (bL 3903)] [(0,bj),(1,sH),(4,bj),(5,bj),(6,au),(31,au),(32,au)] (F5 n), jN (bL 45887) [.ar 1,.code (bL 3903)] [(0,bj),(1,sH),(4,bj),(5,bj),(6,au),(31,au),(32,au)] (F6 n)]
def o5 (n:Nat):Prop:=aC TZp (aaP n)
def aaR (n:Nat)(H:o5 n):cV TZp (C25 n):=.cons H (K24 n)
def aaS (n:Nat)(H:o5 n):ni TZp (akb n):=.cons (bB (.cons (ke [aw] (yx n)) .nil)) .nil
def Xu (n:Nat)(H:Hy o5 n):=aka.k TZp Tryz.f38 n (dr:=aaQ) (jt:=Xt) (hT:=λm hm=>⟨.nil,aaR m ((H.d hm).s),(aaS m ((H.d hm).s)),.nil,(.cc (.cc .nil))⟩)
def DG (n:Nat)(H:Hy o5 n):aC TZp (aaP (n+1)):=aR Tryz.f38 (dr:=aaQ) (hT:=⟨.nil,aaR n (H.s),(aaS n (H.s)),(.cc (Xu n H) .nil),.nil⟩)
def F7 (n:Nat):o5 n:=FF (Q:=o5) (eE Tryz.f38) DG n
def K25 (n:Nat):cV TZp (C25 n):=aaR n (F7 n)
def tN:uv (Addr->Sl->Addr->Sl->Int->Int->M Unit):=λG n a0 a1 a2 a3 a4 a5=>if decide (a5<a4) then iX a3 a5 1 λx0=>eI x0 λx1=>eS a2 λx2=>gL a0 λx3=>sh (tX [some a2] (wY n (x3.1,x3.2) x1)) λx4=>iX x2 a5 2 λx5=>sN x5 [aA x4.1,vi x4.2] λx6=>G a0 a1 a2 a3 a4 (i64.wrap (a5+1)) else AI ()
def oS:=lp tN
theorem Cm (n:Nat):oS (n+1)=tN (oS n) n:=rfl
def tO:uv (Addr->Addr->Sl->Int->Int->M Unit):=λG n a0 a1 a2 a3 a4=>if decide (a4<a3) then iX a2 a4 1 λx0=>sN x0 [vi a4] λx1=>G a0 a1 a2 a3 (i64.wrap (a4+1)) else AI ()
def oT:=lp tO
theorem Cn (n:Nat):oT (n+1)=tO (oT n) n:=rfl
def wb (n:Nat)(a0 a1:Addr)(a2:Sl):M Sl:=lS a1 3 λx0=>sh (w9 none aj [aE,vi 0] (↑x0.len:Int) (↑x0.len:Int)) λx1=>nW gP [aE] λx2=>sN (ak x2) [aA x1] λx3=>lS a1 3 λx4=>sh (oS n a0 a2 (ak x2) x4 (↑x4.len:Int) 0) λx5=>sh (nE n a2 (Value.func (Fn.func uD) #[] #[.pointer (some (ak x2))])) λx6=>AI a2
def om (n:Nat)(a0:Sl×Int)(a1:Int):M Sl:=nW aj [aA a0.1,vi a0.2] λx0=>lS (ak x0) 0 λx1=>iX x1 a1 5 λx2=>nL x2 λx3=>nW av [vi 0,.string (ofBytes []),.bool false,aE,aE] λx4=>sN (ak x4) [vi x3.1,.string x3.2.1,.bool x3.2.2.1,aA x3.2.2.2.1,aA x3.2.2.2.2] λx5=>lS (ak x4) 4 λx6=>sh (w9 none al [vi 0] (↑x6.len:Int) (↑x6.len:Int)) λx7=>sh (oT n (ak x0) (ak x4) x7 (↑x7.len:Int) 0) λx8=>lI (ak x4) 0 λx9=>if !decide (x9=10) then AI x7 else lB (ak x4) 2 λdZ=>if dZ then AI x7 else wb n (ak x0) (ak x4) x7
abbrev ahs (n:Nat):dh:=eN 25 [.agg [.sl,.int .i64],au] [bj] (om n)
abbrev akc:=L1 (bL 87) [(2,aw),(5,aw),(6,bj),(21,au),(22,au)] [] ([7]++rG 22 8) 0 oT
abbrev akd:=L1 (bL 703) [(2,aw),(6,bj),(8,aw),(43,bj),(44,au),(45,au)] [] ([9,10]++rG 45 12) 2 oS
def SV:=dR [(14,[1,3,0,2,1004,5,6])]
abbrev ake (n:Nat):List (iB Sl):=[jN (bL 95) [.code (bL 127)] [(2,aw),(5,aw),(6,bj)] (wb n)]
def Xv (n:Nat):=akd.k TZp Tryz.f25 n (dr:=SV) (hT:=λm _=>.m1 (K25 m))
def Xw (n:Nat):=akc.k TZp Tryz.f25 n (dr:=SV) (hT:=λm _=>.m1 (K25 m))
def IC (n:Nat):aC TZp (ahs n):=aR Tryz.f25 (dr:=SV) (js:=ake n) (hT:=⟨.nil,K25 n,.nil,(.cc (Xw n) (.cc (Xv n) .nil)),(.cc .nil)⟩)
abbrev C26 (n:Nat):List dh:=ahs n::C25 n
def K26 (n:Nat):cV TZp (C26 n):=.cons (IC n) (K25 n)
structure di where
 fA:Int->Addr->Addr->Addr->Sl->Int->Int->M Unit
 ml:Int->Addr->Addr->Addr->Addr->Addr->M Unit
def qQ (G:di)(n:Nat)(x:ξ)(a0:Int):M Unit:=if nG rC x then sh (mr [aw,aw,aw,aw,aw] x) λ(c:Addr×Addr×Addr×Addr×Addr)=>G.ml a0 c.1 c.2.1 c.2.2.1 c.2.2.2.1 c.2.2.2.2 else AS
def sf (G:di)(n:Nat)(a0:Int)(a1 a2 a3:Addr)(a4:Sl)(a5 a6:Int):M Unit:=if decide (a6<a5) then iX a4 a6 1 λx0=>eI x0 λx1=>eS a1 λx2=>lS a2 0 λx3=>iX x3 a0 5 λx4=>lS x4 4 λx5=>iX x5 x1 1 λx6=>eI x6 λx7=>iX x2 x7 1 λx8=>eB x8 λx9=>if !x9 then sh (dL .raw a3) λ(dZ:ξ)=>lS a2 0 λx11=>iX x11 a0 5 λx12=>lS x12 4 λx13=>iX x13 x1 1 λfJ=>eI fJ λx15=>sh (qQ G n dZ x15) λsK=>G.fA a0 a1 a2 a3 a4 a5 (i64.wrap (a6+1)) else G.fA a0 a1 a2 a3 a4 a5 (i64.wrap (a6+1)) else AI ()
def wc (G:di)(n:Nat)(a0:Int)(a1 a2 a3 a4 a5:Addr):M Unit:=eS a1 λx0=>iX x0 a0 1 λx1=>sN x1 [.bool true] λx2=>eS a2 λx3=>sh (app false x3 1 al 1 [vi a0]) λx4=>sN a2 [aA x4] λx5=>eS a4 λx6=>gL a3 λx7=>sh (tX [some a4] (om n (x7.1,x7.2) a0)) λx8=>iX x6 a0 1 λx9=>sN x9 [aA x8] λdZ=>eS a4 λx11=>iX x11 a0 1 λx12=>eS x12 λx13=>sh (G.fA a0 a1 a3 a5 x13 (↑x13.len:Int) 0) λfJ=>AI ()
def di.at:Nat->di|0=>⟨λ_ _ _ _ _ _ _=>AS,λ_ _ _ _ _ _=>AS⟩|n+1=>⟨sf (di.at n) n,wc (di.at n) n⟩
def fA (n:Nat):=(di.at n).fA
theorem Bl (n:Nat):fA (n+1)=sf (di.at n) n:=rfl
def ml (n:Nat):=(di.at n).ml
theorem ER (n:Nat):ml (n+1)=wc (di.at n) n:=rfl
def F8 (n:Nat):=qQ (di.at n) n
abbrev Uy (n:Nat):dh:=eN 36 [au,aw,aw,aw,aw,aw] [] (ml n)
abbrev akf:=L1 [0,1,1,1,1] [(0,au),(1,aw),(3,aw),(5,aw),(25,bj),(26,au),(27,au)] [] ([8]++rG 27 29) 0 fA
abbrev C27 (n:Nat):List dh:=Uy n::C26 n
abbrev akg (n:Nat):List nH:=[dN 44 [au] [] (F8 n)]
def aaT:=dR [(2,[1,3,0,2,1004,5,6]),(6,[1,3,7,0,2,4,5,6]++rG 8 5),(7,[1,3,7,0,2,4,5,6,8,9,10])]
def lh (n:Nat):Prop:=aC TZp (Uy n)
def aaU (n:Nat)(H:lh n):cV TZp (C27 n):=.cons H (K26 n)
def aaV (n:Nat)(H:lh n):ni TZp (akg n):=.cons (bB (.cons (ke [aw,aw,aw,aw,aw] (H)) .nil)) .nil
def Xx (n:Nat)(H:Hy lh n):=akf.k TZp Tryz.f36 n (dr:=aaT) (hT:=λm hm=>⟨.nil,aaU m ((H.d hm).s),(aaV m ((H.d hm).s)),.nil,.nil⟩)
def Bm (n:Nat)(H:Hy lh n):aC TZp (Uy (n+1)):=aR Tryz.f36 (dr:=aaT) (hT:=⟨.nil,aaU n (H.s),(aaV n (H.s)),(.cc (Xx n H) .nil),.nil⟩)
def wu (n:Nat):lh n:=FF (Q:=lh) (eE Tryz.f36) Bm n
def Hn (n:Nat):aC TZp (Uy n):=(wu n)
def K27 (n:Nat):cV TZp (C27 n):=aaU n (wu n)
structure aY where
 gW:Addr->Addr->Int->Int->M Int
 eR:Int->Addr->Addr->Addr->Addr->Addr->Sl->Int->Int->M (Unit⊕Bool)
 kJ:Int->Addr->Addr->Addr->Addr->Addr->M Bool
def qh (G:aY)(n:Nat)(x:ξ)(a0:Int):M Bool:=if nG qt x then sh (mr [aw,aw,aw,aw,aw] x) λ(c:Addr×Addr×Addr×Addr×Addr)=>G.kJ a0 c.1 c.2.1 c.2.2.1 c.2.2.2.1 c.2.2.2.2 else AS
def qR (G:aY)(n:Nat)(a0 a1:Addr)(a2 a3:Int):M Int:=eS a0 λx0=>iX x0 a3 1 λx1=>eI x1 λx2=>if !decide (x2=a2) then G.gW a0 a1 a2 (i64.wrap (a3-1)) else AI a3
def qS (G:aY)(n:Nat)(a0:Int)(a1 a2 a3 a4 a5:Addr)(a6:Sl)(a7 a8:Int):M (Unit⊕Bool):=if decide (a8<a7) then iX a6 a8 1 λx0=>eI x0 λx1=>lS a3 0 λx2=>iX x2 a0 5 λx3=>lS x3 4 λx4=>iX x4 x1 1 λx5=>eI x5 λx6=>eS a1 λx7=>iX x7 x6 1 λx8=>eI x8 λx9=>if decide (x9=1) then eS a2 λdZ=>sh (G.gW a2 a4 x6 (i64.wrap ((↑dZ.len:Int)-1))) λx11=>nW al [] λx12=>eS a2 λx13=>sh (iM x13 x11 (↑x13.len:Int) al 1) λfJ=>sh (Jd fJ 1) λx15=>sh (app false { a:=some (ak x12),len:=0,cap:=1 } 1 3 fJ.len x15) λsK=>sN a4 [aA sK] λx17=>AI (Sum.inr true) else eS a1 λdZ=>iX dZ x6 1 λx11=>eI x11 λx12=>if decide (x12=0) then sh (dL .raw a5) λ(x13:ξ)=>sh (qh G n x13 x6) λfJ=>if fJ then AI (Sum.inr true) else G.eR a0 a1 a2 a3 a4 a5 a6 a7 (i64.wrap (a8+1)) else G.eR a0 a1 a2 a3 a4 a5 a6 a7 (i64.wrap (a8+1)) else AI (Sum.inl ())
def u0 (G:aY)(n:Nat)(a0:Int)(a1 a2 a3 a4 a5:Addr):M Bool:=eS a1 λx0=>iX x0 a0 1 λx1=>sN x1 [vi 1] λx2=>eS a2 λx3=>sh (app false x3 1 al 1 [vi a0]) λx4=>sN a2 [aA x4] λx5=>gL a3 λx6=>sh (om n (x6.1,x6.2) a0) λx7=>sh (G.eR a0 a1 a2 a3 a4 a5 x7 (↑x7.len:Int) 0) (dW (λx8=>eS a1 λx9=>iX x9 a0 1 λdZ=>sN dZ [vi 2] λx11=>eS a2 λx12=>eS a2 λx13=>sh (iM x12 0 (i64.wrap ((↑x13.len:Int)-1)) al 1) λfJ=>sN a2 [aA fJ] λx15=>AI false) (λx8=>AI x8))
def aY.at:Nat->aY|0=>⟨λ_ _ _ _=>AS,λ_ _ _ _ _ _ _ _ _=>AS,λ_ _ _ _ _ _=>AS⟩|n+1=>⟨qR (aY.at n) n,qS (aY.at n) n,u0 (aY.at n) n⟩
def gW (n:Nat):=(aY.at n).gW
theorem At (n:Nat):gW (n+1)=qR (aY.at n) n:=rfl
def eR (n:Nat):=(aY.at n).eR
theorem Au (n:Nat):eR (n+1)=qS (aY.at n) n:=rfl
def kJ (n:Nat):=(aY.at n).kJ
theorem DH (n:Nat):kJ (n+1)=u0 (aY.at n) n:=rfl
def ES (n:Nat):=qh (aY.at n) n
abbrev Uz (n:Nat):dh:=eN 30 [au,aw,aw,aw,aw,aw] [jc] (kJ n)
abbrev akh:=L2 (bL 87) [(0,au),(1,aw),(2,aw),(3,aw),(4,aw),(5,aw),(21,bj),(22,au),(23,au)] [] [(7,jc)] ([7,9,10,11]++rG 23 45) 0 .ret eR
abbrev aki:=L1 (bL 612759) [(2,aw),(4,aw),(10,au),(11,au)] [(11,au)] ([11]++rG 44 8) 2 gW
abbrev C28 (n:Nat):List dh:=Uz n::C27 n
abbrev akj (n:Nat):List nH:=[dN 63 [au] [jc] (ES n)]
def iJ (n:Nat):Prop:=aC TZp (Uz n)
def UA (n:Nat)(H:iJ n):cV TZp (C28 n):=.cons H (K27 n)
def SW (n:Nat)(H:iJ n):ni TZp (akj n):=.cons (bB (.cons (ke [aw,aw,aw,aw,aw] (H)) .nil)) .nil
def Xy (n:Nat)(H:Hy iJ n):=aki.k TZp Tryz.f30 n (hT:=λm hm=>⟨.nil,UA m ((H.d hm).s),(SW m ((H.d hm).s)),.nil,.nil⟩)
def Xz (n:Nat)(H:Hy iJ n):=akh.k TZp Tryz.f30 n (hT:=λm hm=>⟨.nil,UA m ((H.d hm).s),(SW m ((H.d hm).s)),(.cc (Xy m (H.d hm)) .nil),.nil⟩)
def Av (n:Nat)(H:Hy iJ n):aC TZp (Uz (n+1)):=aR Tryz.f30 (hT:=⟨.nil,UA n (H.s),(SW n (H.s)),(.cc (Xz n H) .nil),.nil⟩)
def vL (n:Nat):iJ n:=FF (Q:=iJ) (eE Tryz.f30) Av n
def F9 (n:Nat):aC TZp (Uz n):=(vL n)
def K28 (n:Nat):cV TZp (C28 n):=UA n (vL n)
structure aO where
 gY:Bool->Addr->Addr->Int->Addr->Sl->Sl->Sl->Int->Int->M ((Sl×Sl)⊕(Int×Bool))
 kK:Int->Bool->Addr->Addr->Addr->Addr->Addr->M (Int×Bool)
def ja (G:aO)(n:Nat)(x:ξ)(a0:Int)(a1:Bool):M (Int×Bool):=if nG qu x then sh (mr [aw,aw,aw,aw,aw] x) λ(c:Addr×Addr×Addr×Addr×Addr)=>G.kK a0 a1 c.1 c.2.1 c.2.2.1 c.2.2.2.1 c.2.2.2.2 else AS
abbrev vM:=ja
def gX (G:aO)(n:Nat)(a0:Bool)(a1 a2:Addr)(a3:Int)(a4:Addr)(a5 a6:Sl)(a7:Int)(a8:Sl)(a9 a10:Int):M ((Sl×Sl)⊕(Int×Bool)):=sh (dL .raw a2) λ(x0:ξ)=>lS a4 4 λx1=>iX x1 a7 1 λx2=>eI x2 λx3=>sh (vM G n x0 x3 a0) λx4=>if !x4.2 then AI (Sum.inr (0,false)) else sh (app false a6 1 al 1 [vi x4.1]) λx5=>G.gY a0 a1 a2 a3 a4 a5 x5 a8 a9 (i64.wrap (a10+1))
def qT (G:aO)(n:Nat)(a0:Bool)(a1 a2:Addr)(a3:Int)(a4:Addr)(a5 a6 a7:Sl)(a8 a9:Int):M ((Sl×Sl)⊕(Int×Bool)):=if decide (a9<a8) then iX a7 a9 1 λx0=>eI x0 λx1=>lI a4 0 λx2=>if decide (x2=10) then sh (dL .raw a2) λ(x3:ξ)=>lS a4 3 λx4=>iX x4 x1 1 λx5=>eI x5 λx6=>sh (ja G n x3 x6 true) λx7=>if !x7.2 then AI (Sum.inr (0,false)) else sh (app false a5 1 al 1 [vi x7.1]) λx8=>gX G n a0 a1 a2 a3 a4 x8 a6 x1 a7 a8 a9 else gX G n a0 a1 a2 a3 a4 a5 a6 x1 a7 a8 a9 else AI (Sum.inl (a5,a6))
def jP (G:aO)(n:Nat)(a0:Bool)(a1 a2:Addr)(a3:Int)(a4:Addr)(a5:Sl):M (Int×Bool):=sh (G.gY a0 a1 a2 a3 a4 ow ow a5 (↑a5.len:Int) 0) (dW (λx0=>lS a1 0 λx1=>iX x1 a3 5 λx2=>lS a1 0 λx3=>sh (tX [some (a1.plus 0)] (rN (x2.plus 3) [aA x0.1])) λx4=>iX x3 a3 5 λx5=>sN (x5.plus 4) [aA x0.2] λx6=>AI (a3,true)) (λx0=>AI (x0.1,x0.2)))
def u5 (G:aO)(n:Nat)(a0:Int)(a1:Bool)(a2 a3 a4 a5 a6:Addr):M (Int×Bool):=lS a2 0 λx0=>eI a3 λx1=>if decide (x1<=(↑x0.len:Int)) then AI (0,false) else lS a4 0 λx2=>iX x2 a0 5 λx3=>nL x3 λx4=>nW av [vi 0,.string (ofBytes []),.bool false,aE,aE] λx5=>sN (ak x5) [vi x4.1,.string x4.2.1,.bool x4.2.2.1,aA x4.2.2.2.1,aA x4.2.2.2.2] λx6=>lS a2 0 λx7=>lI (ak x5) 0 λx8=>lT (ak x5) 1 λx9=>lB (ak x5) 2 λdZ=>sh (app false x7 5 av 1 [vi x8,.string x9,.bool dZ,aE,aE]) λx11=>sN (a2.plus 0) [aA x11] λx12=>eS a5 λx13=>iX x13 a0 1 λfJ=>eS fJ λx15=>if a1 then gL a4 λsK=>sh (om n (sK.1,sK.2) a0) λx17=>jP G n a1 a2 a6 (↑x0.len:Int) (ak x5) x17 else jP G n a1 a2 a6 (↑x0.len:Int) (ak x5) x15
def aO.at:Nat->aO|0=>⟨λ_ _ _ _ _ _ _ _ _ _=>AS,λ_ _ _ _ _ _ _=>AS⟩|n+1=>⟨qT (aO.at n) n,u5 (aO.at n) n⟩
def gY (n:Nat):=(aO.at n).gY
def kK (n:Nat):=(aO.at n).kK
def ET (n:Nat):=ja (aO.at n) n
def EU (n:Nat):=vM (aO.at n) n
def Co (n:Nat):=gX (aO.at n) n
def Ga (n:Nat):=jP (aO.at n) n
abbrev UB (n:Nat):dh:=eN 24 [au,jc,aw,aw,aw,aw,aw] [au,jc] (kK n)
abbrev akk:=L2 (bL 2815) [(1,jc),(2,aw),(6,aw),(11,au),(12,aw),(14,bj),(15,bj),(53,bj),(54,au),(55,au)] [(14,bj),(15,bj)] [(9,au),(10,jc)] ([9,10,14,15]++rG 17 5++rG 55 41) 0 .ret gY
abbrev C29 (n:Nat):List dh:=UB n::C28 n
abbrev akl (n:Nat):List nH:=[dN 63 [au,jc] [au,jc] (ET n), dN 79 [au,jc] [au,jc] (EU n)]
def aaW:=dR [(14,[1,3,0,2]++rG 4 8),(18,[1,3,6,0,2,4,5]++rG 7 6),(23,[0,2,3,5,6,7,1,8,9,4,5010,11,12,13])]
abbrev XA (n:Nat):List (iB ((Sl×Sl)⊕(Int×Bool))):=[jN (bL 733951) [.code (bL 996095),.ar 1,.code (bL 62207)] [(1,jc),(2,aw),(6,aw),(11,au),(12,aw),(14,bj),(15,bj),(17,au),(53,bj),(54,au),(55,au)] (Co n)]
abbrev akm (n:Nat):List (iB (Int×Bool)):=[jN (bL 383) [.code (bL 511)] [(1,jc),(2,aw),(6,aw),(11,au),(12,aw),(13,bj)] (Ga n)]
def j8 (n:Nat):Prop:=aC TZp (UB n)
def aaX (n:Nat)(H:j8 n):cV TZp (C29 n):=.cons H (K28 n)
def aaY (n:Nat)(H:j8 n):ni TZp (akl n):=.cons (bB (.cons (ke [aw,aw,aw,aw,aw] (H)) .nil)) (.cons (bB (.cons (ke [aw,aw,aw,aw,aw] (H)) .nil)) .nil)
def XB (n:Nat)(H:Hy j8 n):=akk.k TZp Tryz.f24 n (dr:=aaW) (jt:=XA) (hT:=λm hm=>⟨.nil,aaX m ((H.d hm).s),(aaY m ((H.d hm).s)),.nil,(.cc .nil)⟩)
def Aw (n:Nat)(H:Hy j8 n):aC TZp (UB (n+1)):=aR Tryz.f24 (dr:=aaW) (js:=akm n) (hT:=⟨.nil,aaX n (H.s),(aaY n (H.s)),(.cc (XB n H) .nil),(.cc .nil)⟩)
def vN (n:Nat):j8 n:=FF (Q:=j8) (eE Tryz.f24) Aw n
def Gb (n:Nat):aC TZp (UB n):=(vN n)
def K29 (n:Nat):cV TZp (C29 n):=aaX n (vN n)
def we (n:Nat)(x:ξ)(a0:Int):M Unit:=if nG rC x then sh (mr [aw,aw,aw,aw,aw] x) λ(c:Addr×Addr×Addr×Addr×Addr)=>ml n a0 c.1 c.2.1 c.2.2.1 c.2.2.2.1 c.2.2.2.2 else AS
def sE (n:Nat)(a0:Sl×Int):M (Sl×Sl):=nW aj [aA a0.1,vi a0.2] λx0=>lS (ak x0) 0 λx1=>sh (w9 none aF [aE] (↑x1.len:Int) (↑x1.len:Int)) λx2=>nW nB [aE] λx3=>sN (ak x3) [aA x2] λx4=>lS (ak x0) 0 λx5=>sh (w9 none Ep [.bool false] (↑x5.len:Int) (↑x5.len:Int)) λx6=>nW wW [aE] λx7=>sN (ak x7) [aA x6] λx8=>nW aF [aE] λx9=>nW uC [Value.nilFunc] λdZ=>sN (ak dZ) [.func (Fn.func rC) #[] #[.pointer (some (ak x7)),.pointer (some (ak x9)),.pointer (some (ak x0)),.pointer (some (ak x3)),.pointer (some (ak dZ))]] λx11=>sh (dL .raw (ak dZ)) λ(x12:ξ)=>lI (ak x0) 1 λx13=>sh (we n x12 x13) λfJ=>sh (dL .sl (ak x9)) λ(x15:Sl)=>sh (dL .sl (ak x3)) λ(sK:Sl)=>AI (x15,sK)
abbrev aht (n:Nat):dh:=eN 22 [.agg [.sl,.int .i64]] [bj,bj] (sE n)
abbrev akn (n:Nat):List nH:=[dN 17 [au] [] (we n)]
def ako:=dR [(7,[0,2,1,3])]
def akp (n:Nat):ni TZp (akn n):=.cons (bB (.cons (ke [aw,aw,aw,aw,aw] (Hn n)) .nil)) .nil
def Kl (n:Nat):aC TZp (aht n):=aR Tryz.f22 (dr:=ako) (hT:=⟨.nil,K29 n,(akp n),.nil,.nil⟩)
def u6 (n:Nat)(x:ξ)(a0:Int):M Bool:=if nG qt x then sh (mr [aw,aw,aw,aw,aw] x) λ(c:Addr×Addr×Addr×Addr×Addr)=>kJ n a0 c.1 c.2.1 c.2.2.1 c.2.2.2.1 c.2.2.2.2 else AS
def tP (n:Nat)(a0:Sl×Int):M (Sl×Bool):=nW aj [aA a0.1,vi a0.2] λx0=>gL (ak x0) λx1=>sh (e9 n (x1.1,x1.2)) λx2=>if !decide (x2=0) then AI (ow,false) else lS (ak x0) 0 λx3=>sh (w9 none al [vi 0] (↑x3.len:Int) (↑x3.len:Int)) λx4=>nW aF [aE] λx5=>sN (ak x5) [aA x4] λx6=>nW aF [aE] λx7=>nW aF [aE] λx8=>nW BH [Value.nilFunc] λx9=>sN (ak x9) [.func (Fn.func qt) #[] #[.pointer (some (ak x5)),.pointer (some (ak x7)),.pointer (some (ak x0)),.pointer (some (ak x8)),.pointer (some (ak x9))]] λdZ=>sh (dL .raw (ak x9)) λ(x11:ξ)=>lI (ak x0) 1 λx12=>sh (u6 n x11 x12) λx13=>sh (dL .sl (ak x8)) λ(fJ:Sl)=>AI (fJ,x13)
abbrev ahu (n:Nat):dh:=eN 13 [.agg [.sl,.int .i64]] [bj,jc] (tP n)
abbrev akq (n:Nat):List nH:=[dN 17 [au] [jc] (u6 n)]
def akr (n:Nat):ni TZp (akq n):=.cons (bB (.cons (ke [aw,aw,aw,aw,aw] (F9 n)) .nil)) .nil
def ID (n:Nat):aC TZp (ahu n):=aR Tryz.f13 (hT:=⟨.nil,K29 n,(akr n),.nil,.nil⟩)
abbrev C30 (n:Nat):List dh:=aht n::ahu n::C29 n
def K30 (n:Nat):cV TZp (C30 n):=.cons (Kl n) (.cons (ID n) (K29 n))
def tQ:uv (Sl->Sl->Sl->Int->Int->M Sl):=λG n a0 a1 a2 a3 a4=>if decide (a4<a3) then iX a2 a4 1 λx0=>eI x0 λx1=>iX a0 x1 1 λx2=>eI x2 λx3=>if decide (1<x3) then sh (app false a1 1 al 1 [vi x1]) λx4=>G a0 x4 a2 a3 (i64.wrap (a4+1)) else G a0 a1 a2 a3 (i64.wrap (a4+1)) else AI a1
def oU:=lp tQ
theorem Cp (n:Nat):oU (n+1)=tQ (oU n) n:=rfl
def oo (n:Nat)(a0:Sl×Int):M Sl:=nW aj [aA a0.1,vi a0.2] λx0=>gL (ak x0) λx1=>sh (e9 n (x1.1,x1.2)) λx2=>if !decide (x2=0) then AI ow else gL (ak x0) λx3=>sh (sE n (x3.1,x3.2)) λx4=>gL (ak x0) λx5=>sh (wH n (x5.1,x5.2)) λx6=>sh (oU n x6 ow x4.1 (↑x4.1.len:Int) 0) λx7=>AI x7
abbrev amL (n:Nat):dh:=eN 8 [.agg [.sl,.int .i64]] [bj] (oo n)
abbrev amM:=L1 (bL 351) [(5,bj),(6,bj),(19,bj),(20,au),(21,au)] [(6,bj)] ([6,8]++rG 21 14) 0 oU
def aaZ (n:Nat):=amM.k TZp Tryz.f8 n (hT:=λm _=>.m1 (K30 m))
def AP (n:Nat):aC TZp (amL n):=aR Tryz.f8 (hT:=.m2 (K30 n) (.cc (aaZ n) .nil))
def u7 (n:Nat)(x:ξ)(a0:Int)(a1:Bool):M (Int×Bool):=if nG qu x then sh (mr [aw,aw,aw,aw,aw] x) λ(c:Addr×Addr×Addr×Addr×Addr)=>kK n a0 a1 c.1 c.2.1 c.2.2.1 c.2.2.2.1 c.2.2.2.2 else AS
def qG (n:Nat)(a0:Sl×Int)(a1:Int):M ((Sl×Int)×Int):=nW aj [aA a0.1,vi a0.2] λx0=>nW al [vi a1] λx1=>nW aj [aE,vi 0] λx2=>gL (ak x0) λx3=>sh (e9 n (x3.1,x3.2)) λx4=>if !decide (x4=0) then sN (ak x2) [aE,vi 0] λx5=>gL (ak x2) λx6=>AI ((x6.1,x6.2),3) else gL (ak x0) λx5=>sh (tP n (x5.1,x5.2)) λx6=>if x6.2 then sN (ak x2) [aE,vi 0] λx7=>gL (ak x2) λx8=>AI ((x8.1,x8.2),14) else sh (dL li (ak x1)) λ(x7:Int)=>sN (ak x1) [vi (if 4096<x7 then 4096 else x7)] λx8=>gL (ak x0) λx9=>sh (sE n (x9.1,x9.2)) λdZ=>nW nB [aE] λx11=>sN (ak x11) [aA dZ.2] λx12=>nW aj [aE,vi 0] λx13=>nW jf [Value.nilFunc] λfJ=>sN (ak fJ) [.func (Fn.func qu) #[] #[.pointer (some (ak x13)),.pointer (some (ak x1)),.pointer (some (ak x0)),.pointer (some (ak x11)),.pointer (some (ak fJ))]] λx15=>sh (dL .raw (ak fJ)) λ(sK:ξ)=>lI (ak x0) 1 λx17=>sh (u7 n sK x17 false) λuy=>if !uy.2 then sN (ak x2) [aE,vi 0] λx19=>gL (ak x2) λx20=>AI ((x20.1,x20.2),7) else gL (ak x13) λx19=>sN (ak x2) [aA x19.1,vi x19.2] λx20=>gL (ak x2) λx21=>AI ((x21.1,x21.2),0)
abbrev amN (n:Nat):dh:=eN 9 [.agg [.sl,.int .i64],au] [.agg [.sl,.int .i64],au] (qG n)
abbrev amO (n:Nat):List nH:=[dN 34 [au,jc] [au,jc] (u7 n)]
def amP (n:Nat):ni TZp (amO n):=.cons (bB (.cons (ke [aw,aw,aw,aw,aw] (Gb n)) .nil)) .nil
def AQ (n:Nat):aC TZp (amN n):=aR Tryz.f9 (hT:=⟨.nil,K30 n,(amP n),.nil,.nil⟩)
def Kn (n:Nat)(a0:Sl×Int):M ((Sl×Int)×Int):=nW aj [aA a0.1,vi a0.2] λx0=>nW aj [aE,vi 0] λx1=>gL (ak x0) λx2=>sh (e9 n (x2.1,x2.2)) λx3=>if !decide (x3=0) then sN (ak x1) [aE,vi 0] λx4=>gL (ak x1) λx5=>AI ((x5.1,x5.2),3) else gL (ak x0) λx4=>sh (sE n (x4.1,x4.2)) λx5=>gL (ak x0) λx6=>gL (ak x0) λx7=>sh (tX [some (ak x0)] (D1 n (x7.1,x7.2) x5.1 x5.2)) λx8=>sh (Cj n (x6.1,x6.2) x5.1 x5.2 x8) λx9=>sN (ak x1) [aA x9.1.1,vi x9.1.2] λdZ=>gL (ak x1) λx11=>AI ((x11.1,x11.2),x9.2)
abbrev ahv (n:Nat):dh:=eN 12 [.agg [.sl,.int .i64]] [.agg [.sl,.int .i64],au] (Kn n)
def aks:=dR [(4,[1,2,4,5,0,3,1006]++rG 7 5)]
def LM (n:Nat):aC TZp (ahv n):=aR Tryz.f12 (dr:=aks) (hT:=.m1 (K30 n))
abbrev C31 (n:Nat):List dh:=amL n::amN n::ahv n::C30 n
def K31 (n:Nat):cV TZp (C31 n):=.cons (AP n) (.cons (AQ n) (.cons (LM n) (K30 n)))
def sq (n:Nat)(a0:Sl×Int):M Bool:=nW aj [aA a0.1,vi a0.2] λx0=>gL (ak x0) λx1=>sh (e9 n (x1.1,x1.2)) λx2=>if decide (x2=0) then gL (ak x0) λx3=>sh (oo n (x3.1,x3.2)) λx4=>AI (decide ((↑x4.len:Int)=0)) else AI false
abbrev amQ (n:Nat):dh:=eN 7 [.agg [.sl,.int .i64]] [jc] (sq n)
def D2 (n:Nat):aC TZp (amQ n):=aR Tryz.f7 (hT:=.m1 (K31 n))
abbrev C32 (n:Nat):List dh:=amQ n::C31 n
def K32 (n:Nat):cV TZp (C32 n):=.cons (D2 n) (K31 n)
def xI (n:Nat):M Bool:=nW al [vi 1,vi 1] λx0=>nW av [vi 9,.string (ofBytes []),.bool false,aE,.slice (some (ak x0)) 2 3,vi 2,.string (ofBytes [55]),.bool false,aE,aE] λx1=>nW aj [aE,vi 0] λx2=>sN (ak x2) [.slice (some (ak x1)) 2 3,vi 0] λx3=>nW al [vi 1] λx4=>nW al [vi 0] λx5=>nW av [vi 9,.string (ofBytes []),.bool false,aE,.slice (some (ak x4)) 1 2,vi 9,.string (ofBytes []),.bool false,aE,.slice (some (ak x5)) 1 2] λx6=>nW aj [aE,vi 0] λx7=>sN (ak x7) [.slice (some (ak x6)) 2 3,vi 0] λx8=>gL (ak x2) λx9=>sh (qG n (x9.1,x9.2) 3) λdZ=>nW aj [aE,vi 0] λx11=>sN (ak x11) [aA dZ.1.1,vi dZ.1.2] λx12=>gL (ak x7) λx13=>sh (Kn n (x13.1,x13.2)) λfJ=>nW aj [aE,vi 0] λx15=>sN (ak x15) [aA fJ.1.1,vi fJ.1.2] λsK=>gL (ak x7) λx17=>sh (tP n (x17.1,x17.2)) λuy=>gL (ak x2) λx19=>sh (oo n (x19.1,x19.2)) λx20=>nW al [vi 1] λx21=>sh (yo n x20 { a:=some (ak x21),len:=1,cap:=2 }) λx22=>if x22 then gL (ak x2) λx23=>sh (sq n (x23.1,x23.2)) λx24=>if !x24 then if decide (dZ.2=0) then lS (ak x11) 0 λx25=>if decide ((↑x25.len:Int)=3) then gL (ak x11) λx26=>sh (sq n (x26.1,x26.2)) λx27=>if x27 then if decide (fJ.2=0) then lS (ak x15) 0 λx28=>if decide ((↑x28.len:Int)=1) then if uy.2 then AI (decide ((↑uy.1.len:Int)=2)) else AI false else AI false else AI false else AI false else AI false else AI false else AI false else AI false
abbrev aoz (n:Nat):dh:=eN 4 [] [jc] (xI n)
def Bn (n:Nat):aC TZp (aoz n):=aR Tryz.f4 (hT:=.m1 (K32 n))
end Go.Sh
