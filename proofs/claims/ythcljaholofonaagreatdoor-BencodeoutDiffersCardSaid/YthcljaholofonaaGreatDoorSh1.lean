
import Derived.Test.YthcljaholofonaaGreatDoorMo
set_option linter.all false
set_option maxRecDepth 100000
set_option maxHeartbeats 0
namespace Go.Sh
open Go Go.Ago Go.Proofs Go.IntKind
abbrev C23 (n:Nat):List cA:=aij n::aol n::aik n::C22 n
def K23 (n:Nat):cS TZp (C23 n):=.cons (HA n) (.cons (Mb n) (.cons (Oa n) (K22 n)))
def wa (n:Nat)(a0 a1:Addr):M (Int×Int):=sh (bX 12) λx0=>gL a0 λx1=>lI a0 1 λx2=>gL a1 λx3=>lI a1 1 λx4=>sh (ue (x0+8) yd) λx5=>sh (sM [some (a0.plus 1),some a1,some (a1.plus 1)] (yC n (x1.1,x1.2))) λx6=>sh (sM [some (a0.plus 1),some (a1.plus 1)] (yC n (x3.1,x3.2))) λx7=>sh (iB n x6 x2 x7 x4 (some x5)) λx8=>AI (x8,0)
def wC (n:Nat)(a0 a1:Sl×Int):M (Int×Int):=nW ai [aA a0.1,vi a0.2] λx0=>nW ai [aA a1.1,vi a1.2] λx1=>gL (ak x0) λx2=>sh (fQ n (x2.1,x2.2)) λx3=>if !decide (x3=0) then AI (0,3) else gL (ak x1) λx4=>sh (fQ n (x4.1,x4.2)) λx5=>if !decide (x5=0) then AI (0,3) else gL (ak x0) λx6=>sh (sZ n (x6.1,x6.2)) λx7=>if !decide (x7=0) then AI (0,14) else gL (ak x1) λx8=>sh (sZ n (x8.1,x8.2)) λx9=>if !decide (x9=0) then AI (0,14) else wa n (ak x0) (ak x1)
abbrev ail (n:Nat):cA:=eN 57 [.agg [.sl,.int .i64],.agg [.sl,.int .i64]] [av,av] (wC n)
def alq:=dR [(5,[2,6,0,3,4,7,8,8005004001,8004005,9,10,11])]
abbrev alr (n:Nat):List (gO (Int×Int)):=[jN [0,1,1,1] [.code [1,1,1,1]] [(2,aB),(3,aB)] (wa n)]
def HB (n:Nat):F9 (C23 n) [84]:=F9.one (e:=aax n) (λx=>Mc n x) (JZ (by kernel_rfl))
def HC (n:Nat):aC TZp (ail n):=aL Tryz.f57 (dr:=alq) (js:=alr n) (hT:=⟨(HB n),K23 n,.nil,.nil,(.cc .nil)⟩)
abbrev C24 (n:Nat):List cA:=ail n::C23 n
def K24 (n:Nat):cS TZp (C24 n):=.cons (HC n) (K23 n)
def y5 (n:Nat)(a0 a1:Int)(a2:Addr):M Bool:=eS a2 λx0=>iX x0 a0 2 λx1=>gL x1 λx2=>eS a2 λx3=>iX x3 a1 2 λx4=>gL x4 λx5=>sh (wC n (x2.1,x2.2) (x5.1,x5.2)) λx6=>AI (decide (x6.1<0))
abbrev aim (n:Nat):cA:=eN 56 [av,av,aB] [jd] (y5 n)
def als:=dR [(1,[1,5,0,2,3,4]++rG 6 8)]
def zI (n:Nat):aC TZp (aim n):=aL Tryz.f56 (dr:=als) (hT:=.m1 (K24 n))
abbrev C25 (n:Nat):List cA:=aim n::C24 n
def K25 (n:Nat):cS TZp (C25 n):=.cons (zI n) (K24 n)
structure bN where
 ko:Sl->ξ->Sl->Sl->Int->Int->M Unit
 pE:Sl->ξ->M Unit
def uY (G:bN)(n:Nat)(x:ξ)(a0 a1:Int):M Bool:=if tU vI x then sh (sB [aB] x) λ(c:Addr)=>y5 n a0 a1 c else AS
def lu (G:bN)(n:Nat)(a0:Sl)(a1:ξ)(a2 a3:Sl)(a4 a5 a6:Int):M Unit:=iX a2 0 1 λx0=>eI x0 λx1=>iX a0 a4 1 λx2=>sh (jH a2 1 (↑a2.len:Int) an 1) λx3=>sh (sM [a2.a] (sL x2 [vi x1])) λx4=>G.ko a0 a1 x3 a3 a5 (i64.wrap (a6+1))
def lv (G:bN)(n:Nat)(a0:Sl)(a1:ξ)(a2 a3:Sl)(a4 a5 a6:Int):M Unit:=iX a3 0 1 λx0=>eI x0 λx1=>iX a0 a4 1 λx2=>sh (jH a3 1 (↑a3.len:Int) an 1) λx3=>sh (sM [a3.a] (sL x2 [vi x1])) λx4=>G.ko a0 a1 a2 x3 a5 (i64.wrap (a6+1))
def wb (G:bN)(n:Nat)(a0:Sl)(a1:ξ)(a2 a3:Sl)(a4 a5:Int):M Unit:=if decide (a5<a4) then if decide ((↑a3.len:Int)=0) then lu G n a0 a1 a2 a3 a5 a4 a5 else if decide (0<(↑a2.len:Int)) then iX a3 0 1 λx0=>iX a2 0 1 λx1=>eI x0 λx2=>eI x1 λx3=>sh (uY G n a1 x2 x3) λx4=>if !x4 then lu G n a0 a1 a2 a3 a5 a4 a5 else lv G n a0 a1 a2 a3 a5 a4 a5 else lv G n a0 a1 a2 a3 a5 a4 a5 else AI ()
def Al (G:bN)(n:Nat)(a0:Sl)(a1:ξ):M Unit:=if decide ((↑a0.len:Int)<2) then AI () else nW an [] λx0=>sh (qT (decide (2≠0))) λx1=>sh (jH a0 0 (i64.wrap ((↑a0.len:Int).tdiv 2)) an 1) λx2=>sh (EU x2 1) λx3=>sh (app false { a:=some (ak x0),len:=0,cap:=1 } 1 3 x2.len x3) λx4=>nW an [] λx5=>sh (qT (decide (2≠0))) λx6=>sh (jH a0 (i64.wrap ((↑a0.len:Int).tdiv 2)) (↑a0.len:Int) an 1) λx7=>sh (EU x7 1) λx8=>sh (app false { a:=some (ak x5),len:=0,cap:=1 } 1 3 x7.len x8) λx9=>sh (G.pE x4 a1) λcH=>sh (G.pE x9 a1) λx11=>sh (G.ko a0 a1 x4 x9 (↑a0.len:Int) 0) λx12=>AI ()
def bN.at:Nat->bN|0=>⟨λ_ _ _ _ _ _=>AS,λ_ _=>AS⟩|n+1=>⟨wb (bN.at n) n,Al (bN.at n) n⟩
def ko (n:Nat):=(bN.at n).ko
theorem EA (n:Nat):ko (n+1)=wb (bN.at n) n:=rfl
def pE (n:Nat):=(bN.at n).pE
theorem HD (n:Nat):pE (n+1)=Al (bN.at n) n:=rfl
def qw (n:Nat):=uY (bN.at n) n
def Gt (n:Nat):=lv (bN.at n) n
def Gu (n:Nat):=lu (bN.at n) n
abbrev abR (n:Nat):cA:=eN 55 [aU,vA] [] (pE n)
abbrev alu:=L1 (bL 191) [(0,aU),(1,vA),(4,aU),(5,aU),(31,av),(32,av)] [] ([4,5,6]++rG 32 39) 0 ko
abbrev C26 (n:Nat):List cA:=abR n::C25 n
abbrev alv (n:Nat):List tB:=[dN 43 [av,av] [jd] (qw n)]
def abS:=dR [(8,rG 0 11++[12,13,11]++rG 14 5),(9,[0,1,2,3,5,4,7,6,7008,9]),(10,[0,1,2,3,5,4,7,6,7008,9])]
abbrev X3 (n:Nat):List (gO Unit):=[jN (bL 62271) [.au 1,.code (bL 3903)] [(0,aU),(1,vA),(4,aU),(5,aU),(6,av),(31,av),(32,av)] (Gt n), jN (bL 45887) [.au 1,.code (bL 3903)] [(0,aU),(1,vA),(4,aU),(5,aU),(6,av),(31,av),(32,av)] (Gu n)]
def qE (n:Nat):Prop:=aC TZp (abR n)
def abT (n:Nat)(H:qE n):cS TZp (C26 n):=.cons H (K25 n)
def abU (n:Nat)(H:qE n):sP TZp (alv n):=.cons (dA (.cons (lA [aB] (zI n)) .nil)) .nil
def X4 (n:Nat)(H:∀m,m<n->qE m):=alu.k TZp Tryz.f55 n (dr:=abS) (jt:=X3) (hT:=λm hm=>⟨.nil,abT m (H m hm),(abU m (H m hm)),.nil,(.cc (.cc .nil))⟩)
def EB (n:Nat)(H:∀m,m<n+1->qE m):aC TZp (abR (n+1)):=aL Tryz.f55 (dr:=abS) (hT:=⟨.nil,abT n (H n (IT n)),(abU n (H n (IT n))),(.cc (X4 n (λk hk=>H k (adX hk))) .nil),.nil⟩)
def Gv:∀n m,m<n->qE m:=uq (P:=qE) (eJ Tryz.f55) λk h=>EB k h
def K26 (n:Nat):cS TZp (C26 n):=abT n (Gv (n+1) n (IT n))
def uZ:pq (Addr->Sl->Addr->Sl->Int->Int->M Unit):=λG n a0 a1 a2 a3 a4 a5=>if decide (a5<a4) then iX a3 a5 1 λx0=>eI x0 λx1=>eS a2 λx2=>gL a0 λx3=>sh (sM [some a2] (D4 n (x3.1,x3.2) x1)) λx4=>iX x2 a5 2 λx5=>sN x5 [aA x4.1,vi x4.2] λx6=>G a0 a1 a2 a3 a4 (i64.wrap (a5+1)) else AI ()
def qx:=lp uZ
theorem DE (n:Nat):qx (n+1)=uZ (qx n) n:=rfl
def u0:pq (Addr->Addr->Sl->Int->Int->M Unit):=λG n a0 a1 a2 a3 a4=>if decide (a4<a3) then iX a2 a4 1 λx0=>sN x0 [vi a4] λx1=>G a0 a1 a2 a3 (i64.wrap (a4+1)) else AI ()
def qy:=lp u0
theorem DG (n:Nat):qy (n+1)=u0 (qy n) n:=rfl
def xf (n:Nat)(a0 a1:Addr)(a2:Sl):M Sl:=lS a1 3 λx0=>sh (xm none ai [aI,vi 0] (↑x0.len:Int) (↑x0.len:Int)) λx1=>nW iI [aI] λx2=>sN (ak x2) [aA x1] λx3=>lS a1 3 λx4=>sh (qx n a0 a2 (ak x2) x4 (↑x4.len:Int) 0) λx5=>sh (pE n a2 (Value.func (Fn.func vI) #[] #[.pointer (some (ak x2))])) λx6=>AI a2
def u5 (n:Nat)(a0:Sl×Int)(a1:Int):M Sl:=nW ai [aA a0.1,vi a0.2] λx0=>lS (ak x0) 0 λx1=>iX x1 a1 5 λx2=>nL x2 λx3=>nW ar [vi 0,.string (ofBytes []),.bool false,aI,aI] λx4=>sN (ak x4) [vi x3.1,.string x3.2.1,.bool x3.2.2.1,aA x3.2.2.2.1,aA x3.2.2.2.2] λx5=>lS (ak x4) 4 λx6=>sh (xm none an [vi 0] (↑x6.len:Int) (↑x6.len:Int)) λx7=>sh (qy n (ak x0) (ak x4) x7 (↑x7.len:Int) 0) λx8=>lI (ak x4) 0 λx9=>if !decide (x9=10) then AI x7 else lB (ak x4) 2 λcH=>if cH then AI x7 else xf n (ak x0) (ak x4) x7
abbrev ain (n:Nat):cA:=eN 33 [.agg [.sl,.int .i64],av] [aU] (u5 n)
abbrev alw:=L1 (bL 87) [(2,aB),(5,aB),(6,aU),(21,av),(22,av)] [] ([7]++rG 22 8) 0 qy
abbrev alx:=L1 (bL 703) [(2,aB),(6,aU),(8,aB),(43,aU),(44,av),(45,av)] [] ([9,10]++rG 45 12) 2 qx
def Te:=dR [(14,[1,3,0,2,1004,5,6])]
abbrev aly (n:Nat):List (gO Sl):=[jN (bL 95) [.code (bL 127)] [(2,aB),(5,aB),(6,aU)] (xf n)]
def X5 (n:Nat):=alx.k TZp Tryz.f33 n (dr:=Te) (hT:=λm _=>.m1 (K26 m))
def X6 (n:Nat):=alw.k TZp Tryz.f33 n (dr:=Te) (hT:=λm _=>.m1 (K26 m))
def I4 (n:Nat):aC TZp (ain n):=aL Tryz.f33 (dr:=Te) (js:=aly n) (hT:=⟨.nil,K26 n,.nil,(.cc (X6 n) (.cc (X5 n) .nil)),(.cc .nil)⟩)
abbrev C27 (n:Nat):List cA:=ain n::C26 n
def K27 (n:Nat):cS TZp (C27 n):=.cons (I4 n) (K26 n)
structure bt where
 jc:Addr->Addr->Int->Int->M Int
 fE:Int->Addr->Addr->Addr->Addr->Addr->Sl->Int->Int->M (Unit⊕Bool)
 mE:Int->Addr->Addr->Addr->Addr->Addr->M Bool
def rP (G:bt)(n:Nat)(x:ξ)(a0:Int):M Bool:=if tU rX x then sh (sB [aB,aB,aB,aB,aB] x) λ(c:Addr×Addr×Addr×Addr×Addr)=>G.mE a0 c.1 c.2.1 c.2.2.1 c.2.2.2.1 c.2.2.2.2 else AS
def sH (G:bt)(n:Nat)(a0 a1:Addr)(a2 a3:Int):M Int:=eS a0 λx0=>iX x0 a3 1 λx1=>eI x1 λx2=>if !decide (x2=a2) then G.jc a0 a1 a2 (i64.wrap (a3-1)) else AI a3
def sI (G:bt)(n:Nat)(a0:Int)(a1 a2 a3 a4 a5:Addr)(a6:Sl)(a7 a8:Int):M (Unit⊕Bool):=if decide (a8<a7) then iX a6 a8 1 λx0=>eI x0 λx1=>lS a3 0 λx2=>iX x2 a0 5 λx3=>lS x3 4 λx4=>iX x4 x1 1 λx5=>eI x5 λx6=>eS a1 λx7=>iX x7 x6 1 λx8=>eI x8 λx9=>if decide (x9=1) then eS a2 λcH=>sh (G.jc a2 a4 x6 (i64.wrap ((↑cH.len:Int)-1))) λx11=>nW an [] λx12=>eS a2 λx13=>sh (jH x13 x11 (↑x13.len:Int) an 1) λx14=>sh (EU x14 1) λx15=>sh (app false { a:=some (ak x12),len:=0,cap:=1 } 1 3 x14.len x15) λx16=>sN a4 [aA x16] λx17=>AI (Sum.inr true) else eS a1 λcH=>iX cH x6 1 λx11=>eI x11 λx12=>if decide (x12=0) then sh (dz .raw a5) λ(x13:ξ)=>sh (rP G n x13 x6) λx14=>if x14 then AI (Sum.inr true) else G.fE a0 a1 a2 a3 a4 a5 a6 a7 (i64.wrap (a8+1)) else G.fE a0 a1 a2 a3 a4 a5 a6 a7 (i64.wrap (a8+1)) else AI (Sum.inl ())
def wc (G:bt)(n:Nat)(a0:Int)(a1 a2 a3 a4 a5:Addr):M Bool:=eS a1 λx0=>iX x0 a0 1 λx1=>sN x1 [vi 1] λx2=>eS a2 λx3=>sh (app false x3 1 an 1 [vi a0]) λx4=>sN a2 [aA x4] λx5=>gL a3 λx6=>sh (u5 n (x6.1,x6.2) a0) λx7=>sh (G.fE a0 a1 a2 a3 a4 a5 x7 (↑x7.len:Int) 0) (aK (λx8=>eS a1 λx9=>iX x9 a0 1 λcH=>sN cH [vi 2] λx11=>eS a2 λx12=>eS a2 λx13=>sh (jH x12 0 (i64.wrap ((↑x13.len:Int)-1)) an 1) λx14=>sN a2 [aA x14] λx15=>AI false) (λx8=>AI x8))
def bt.at:Nat->bt|0=>⟨λ_ _ _ _=>AS,λ_ _ _ _ _ _ _ _ _=>AS,λ_ _ _ _ _ _=>AS⟩|n+1=>⟨sH (bt.at n) n,sI (bt.at n) n,wc (bt.at n) n⟩
def jc (n:Nat):=(bt.at n).jc
theorem BG (n:Nat):jc (n+1)=sH (bt.at n) n:=rfl
def fE (n:Nat):=(bt.at n).fE
theorem BH (n:Nat):fE (n+1)=sI (bt.at n) n:=rfl
def mE (n:Nat):=(bt.at n).mE
theorem EC (n:Nat):mE (n+1)=wc (bt.at n) n:=rfl
def FE (n:Nat):=rP (bt.at n) n
abbrev UK (n:Nat):cA:=eN 32 [av,aB,aB,aB,aB,aB] [jd] (mE n)
abbrev alz:=L2 (bL 87) [(0,av),(1,aB),(2,aB),(3,aB),(4,aB),(5,aB),(21,aU),(22,av),(23,av)] [] [(7,jd)] ([7,9,10,11]++rG 23 45) 0 .ret fE
abbrev alA:=L1 (bL 612759) [(2,aB),(4,aB),(10,av),(11,av)] [(11,av)] ([11]++rG 44 8) 2 jc
abbrev C28 (n:Nat):List cA:=UK n::C27 n
abbrev alB (n:Nat):List tB:=[dN 63 [av] [jd] (FE n)]
def jL (n:Nat):Prop:=aC TZp (UK n)
def UL (n:Nat)(H:jL n):cS TZp (C28 n):=.cons H (K27 n)
def Tf (n:Nat)(H:jL n):sP TZp (alB n):=.cons (dA (.cons (lA [aB,aB,aB,aB,aB] (H)) .nil)) .nil
def X7 (n:Nat)(H:∀m,m<n->jL m):=alA.k TZp Tryz.f32 n (hT:=λm hm=>⟨.nil,UL m (H m hm),(Tf m (H m hm)),.nil,.nil⟩)
def X8 (n:Nat)(H:∀m,m<n->jL m):=alz.k TZp Tryz.f32 n (hT:=λm hm=>⟨.nil,UL m (H m hm),(Tf m (H m hm)),(.cc (X7 m (λk hk=>H k (anE hk hm))) .nil),.nil⟩)
def BI (n:Nat)(H:∀m,m<n+1->jL m):aC TZp (UK (n+1)):=aL Tryz.f32 (hT:=⟨.nil,UL n (H n (IT n)),(Tf n (H n (IT n))),(.cc (X8 n (λk hk=>H k (adX hk))) .nil),.nil⟩)
def wT:∀n m,m<n->jL m:=uq (P:=jL) (eJ Tryz.f32) λk h=>BI k h
def Gw (n:Nat):aC TZp (UK n):=(wT (n+1) n (IT n))
def K28 (n:Nat):cS TZp (C28 n):=UL n (wT (n+1) n (IT n))
structure dw where
 gf:Int->Addr->Addr->Addr->Sl->Int->Int->M Unit
 ov:Int->Addr->Addr->Addr->Addr->Addr->M Unit
def sJ (G:dw)(n:Nat)(x:ξ)(a0:Int):M Unit:=if tU td x then sh (sB [aB,aB,aB,aB,aB] x) λ(c:Addr×Addr×Addr×Addr×Addr)=>G.ov a0 c.1 c.2.1 c.2.2.1 c.2.2.2.1 c.2.2.2.2 else AS
def tN (G:dw)(n:Nat)(a0:Int)(a1 a2 a3:Addr)(a4:Sl)(a5 a6:Int):M Unit:=if decide (a6<a5) then iX a4 a6 1 λx0=>eI x0 λx1=>eS a1 λx2=>lS a2 0 λx3=>iX x3 a0 5 λx4=>lS x4 4 λx5=>iX x5 x1 1 λx6=>eI x6 λx7=>iX x2 x7 1 λx8=>eB x8 λx9=>if !x9 then sh (dz .raw a3) λ(cH:ξ)=>lS a2 0 λx11=>iX x11 a0 5 λx12=>lS x12 4 λx13=>iX x13 x1 1 λx14=>eI x14 λx15=>sh (sJ G n cH x15) λx16=>G.gf a0 a1 a2 a3 a4 a5 (i64.wrap (a6+1)) else G.gf a0 a1 a2 a3 a4 a5 (i64.wrap (a6+1)) else AI ()
def xg (G:dw)(n:Nat)(a0:Int)(a1 a2 a3 a4 a5:Addr):M Unit:=eS a1 λx0=>iX x0 a0 1 λx1=>sN x1 [.bool true] λx2=>eS a2 λx3=>sh (app false x3 1 an 1 [vi a0]) λx4=>sN a2 [aA x4] λx5=>eS a4 λx6=>gL a3 λx7=>sh (sM [some a4] (u5 n (x7.1,x7.2) a0)) λx8=>iX x6 a0 1 λx9=>sN x9 [aA x8] λcH=>eS a4 λx11=>iX x11 a0 1 λx12=>eS x12 λx13=>sh (G.gf a0 a1 a3 a5 x13 (↑x13.len:Int) 0) λx14=>AI ()
def dw.at:Nat->dw|0=>⟨λ_ _ _ _ _ _ _=>AS,λ_ _ _ _ _ _=>AS⟩|n+1=>⟨tN (dw.at n) n,xg (dw.at n) n⟩
def gf (n:Nat):=(dw.at n).gf
theorem Cw (n:Nat):gf (n+1)=tN (dw.at n) n:=rfl
def ov (n:Nat):=(dw.at n).ov
theorem FF (n:Nat):ov (n+1)=xg (dw.at n) n:=rfl
def Gx (n:Nat):=sJ (dw.at n) n
abbrev UM (n:Nat):cA:=eN 85 [av,aB,aB,aB,aB,aB] [] (ov n)
abbrev alC:=L1 [0,1,1,1,1] [(0,av),(1,aB),(3,aB),(5,aB),(25,aU),(26,av),(27,av)] [] ([8]++rG 27 29) 0 gf
abbrev C29 (n:Nat):List cA:=UM n::C28 n
abbrev alD (n:Nat):List tB:=[dN 44 [av] [] (Gx n)]
def abV:=dR [(2,[1,3,0,2,1004,5,6]),(6,[1,3,7,0,2,4,5,6]++rG 8 5),(7,[1,3,7,0,2,4,5,6,8,9,10])]
def nh (n:Nat):Prop:=aC TZp (UM n)
def abW (n:Nat)(H:nh n):cS TZp (C29 n):=.cons H (K28 n)
def abX (n:Nat)(H:nh n):sP TZp (alD n):=.cons (dA (.cons (lA [aB,aB,aB,aB,aB] (H)) .nil)) .nil
def X9 (n:Nat)(H:∀m,m<n->nh m):=alC.k TZp Tryz.f85 n (dr:=abV) (hT:=λm hm=>⟨.nil,abW m (H m hm),(abX m (H m hm)),.nil,.nil⟩)
def Cy (n:Nat)(H:∀m,m<n+1->nh m):aC TZp (UM (n+1)):=aL Tryz.f85 (dr:=abV) (hT:=⟨.nil,abW n (H n (IT n)),(abX n (H n (IT n))),(.cc (X9 n (λk hk=>H k (adX hk))) .nil),.nil⟩)
def xq:∀n m,m<n->nh m:=uq (P:=nh) (eJ Tryz.f85) λk h=>Cy k h
def HG (n:Nat):aC TZp (UM n):=(xq (n+1) n (IT n))
def K29 (n:Nat):cS TZp (C29 n):=abW n (xq (n+1) n (IT n))
def we (n:Nat)(x:ξ)(a0:Int):M Bool:=if tU rX x then sh (sB [aB,aB,aB,aB,aB] x) λ(c:Addr×Addr×Addr×Addr×Addr)=>mE n a0 c.1 c.2.1 c.2.2.1 c.2.2.2.1 c.2.2.2.2 else AS
def xS (n:Nat)(a0:Sl×Int):M (Sl×Bool):=nW ai [aA a0.1,vi a0.2] λx0=>gL (ak x0) λx1=>sh (fQ n (x1.1,x1.2)) λx2=>if !decide (x2=0) then AI (oz,false) else lS (ak x0) 0 λx3=>sh (xm none an [vi 0] (↑x3.len:Int) (↑x3.len:Int)) λx4=>nW aT [aI] λx5=>sN (ak x5) [aA x4] λx6=>nW aT [aI] λx7=>nW aT [aI] λx8=>nW CW [Value.nilFunc] λx9=>sN (ak x9) [.func (Fn.func rX) #[] #[.pointer (some (ak x5)),.pointer (some (ak x7)),.pointer (some (ak x0)),.pointer (some (ak x8)),.pointer (some (ak x9))]] λcH=>sh (dz .raw (ak x9)) λ(x11:ξ)=>lI (ak x0) 1 λx12=>sh (we n x11 x12) λx13=>sh (dz .sl (ak x8)) λ(x14:Sl)=>AI (x14,x13)
abbrev aio (n:Nat):cA:=eN 13 [.agg [.sl,.int .i64]] [aU,jd] (xS n)
abbrev alE (n:Nat):List tB:=[dN 17 [av] [jd] (we n)]
def alF (n:Nat):sP TZp (alE n):=.cons (dA (.cons (lA [aB,aB,aB,aB,aB] (Gw n)) .nil)) .nil
def I5 (n:Nat):aC TZp (aio n):=aL Tryz.f13 (hT:=⟨.nil,K29 n,(alF n),.nil,.nil⟩)
def xh (n:Nat)(x:ξ)(a0:Int):M Unit:=if tU td x then sh (sB [aB,aB,aB,aB,aB] x) λ(c:Addr×Addr×Addr×Addr×Addr)=>ov n a0 c.1 c.2.1 c.2.2.1 c.2.2.2.1 c.2.2.2.2 else AS
def zJ (n:Nat)(a0:Sl×Int):M (Sl×Sl):=nW ai [aA a0.1,vi a0.2] λx0=>lS (ak x0) 0 λx1=>sh (xm none aT [aI] (↑x1.len:Int) (↑x1.len:Int)) λx2=>nW Ij [aI] λx3=>sN (ak x3) [aA x2] λx4=>lS (ak x0) 0 λx5=>sh (xm none e9 [.bool false] (↑x5.len:Int) (↑x5.len:Int)) λx6=>nW mW [aI] λx7=>sN (ak x7) [aA x6] λx8=>nW aT [aI] λx9=>nW vH [Value.nilFunc] λcH=>sN (ak cH) [.func (Fn.func td) #[] #[.pointer (some (ak x7)),.pointer (some (ak x9)),.pointer (some (ak x0)),.pointer (some (ak x3)),.pointer (some (ak cH))]] λx11=>sh (dz .raw (ak cH)) λ(x12:ξ)=>lI (ak x0) 1 λx13=>sh (xh n x12 x13) λx14=>sh (dz .sl (ak x9)) λ(x15:Sl)=>sh (dz .sl (ak x3)) λ(x16:Sl)=>AI (x15,x16)
abbrev aip (n:Nat):cA:=eN 58 [.agg [.sl,.int .i64]] [aU,aU] (zJ n)
abbrev alG (n:Nat):List tB:=[dN 17 [av] [] (xh n)]
def alH:=dR [(7,[0,2,1,3])]
def alI (n:Nat):sP TZp (alG n):=.cons (dA (.cons (lA [aB,aB,aB,aB,aB] (HG n)) .nil)) .nil
def KG (n:Nat):aC TZp (aip n):=aL Tryz.f58 (dr:=alH) (hT:=⟨.nil,K29 n,(alI n),.nil,.nil⟩)
abbrev C30 (n:Nat):List cA:=aio n::aip n::C29 n
def K30 (n:Nat):cS TZp (C30 n):=.cons (I5 n) (.cons (KG n) (K29 n))
def u6:pq (Sl->Sl->Sl->Int->Int->M Sl):=λG n a0 a1 a2 a3 a4=>if decide (a4<a3) then iX a2 a4 1 λx0=>eI x0 λx1=>iX a0 x1 1 λx2=>eI x2 λx3=>if decide (1<x3) then sh (app false a1 1 an 1 [vi x1]) λx4=>G a0 x4 a2 a3 (i64.wrap (a4+1)) else G a0 a1 a2 a3 (i64.wrap (a4+1)) else AI a1
def qz:=lp u6
theorem DH (n:Nat):qz (n+1)=u6 (qz n) n:=rfl
def xU (n:Nat)(a0:Sl×Int):M Sl:=nW ai [aA a0.1,vi a0.2] λx0=>gL (ak x0) λx1=>sh (fQ n (x1.1,x1.2)) λx2=>if !decide (x2=0) then AI oz else gL (ak x0) λx3=>sh (zJ n (x3.1,x3.2)) λx4=>gL (ak x0) λx5=>sh (xE n (x5.1,x5.2)) λx6=>sh (qz n x6 oz x4.1 (↑x4.1.len:Int) 0) λx7=>AI x7
abbrev aiq (n:Nat):cA:=eN 34 [.agg [.sl,.int .i64]] [aU] (xU n)
abbrev alJ:=L1 (bL 351) [(5,aU),(6,aU),(19,aU),(20,av),(21,av)] [(6,aU)] ([6,8]++rG 21 14) 0 qz
def Ya (n:Nat):=alJ.k TZp Tryz.f34 n (hT:=λm _=>.m1 (K30 m))
def I6 (n:Nat):aC TZp (aiq n):=aL Tryz.f34 (hT:=.m2 (K30 n) (.cc (Ya n) .nil))
abbrev C31 (n:Nat):List cA:=aiq n::C30 n
def K31 (n:Nat):cS TZp (C31 n):=.cons (I6 n) (K30 n)
def BJ (n:Nat)(a0:Sl×Int):M Bool:=nW ai [aA a0.1,vi a0.2] λx0=>gL (ak x0) λx1=>sh (fQ n (x1.1,x1.2)) λx2=>if decide (x2=0) then gL (ak x0) λx3=>sh (xU n (x3.1,x3.2)) λx4=>AI (decide ((↑x4.len:Int)=0)) else AI false
abbrev air (n:Nat):cA:=eN 14 [.agg [.sl,.int .i64]] [jd] (BJ n)
def Md (n:Nat):aC TZp (air n):=aL Tryz.f14 (hT:=.m1 (K31 n))
abbrev C32 (n:Nat):List cA:=air n::C31 n
def K32 (n:Nat):cS TZp (C32 n):=.cons (Md n) (K31 n)
def eD (n:Nat)(a0:Sl×Int):M (ζ×Int):=nW ai [aA a0.1,vi a0.2] λx0=>gL (ak x0) λx1=>sh (fQ n (x1.1,x1.2)) λx2=>if !decide (x2=0) then AI ((ofBytes []),3) else gL (ak x0) λx3=>sh (xS n (x3.1,x3.2)) λx4=>if x4.2 then AI ((ofBytes []),14) else gL (ak x0) λx5=>sh (BJ n (x5.1,x5.2)) λx6=>if !x6 then AI ((ofBytes []),15) else gL (ak x0) λx7=>nW jV [aA x7.1,vi x7.2,.pointer none,aI,vi 0] λx8=>lI (ak x0) 1 λx9=>sh (db n (some (ak x8)) x9) λcH=>sh (nn (some (ak x8))) λx11=>lI x11 4 λx12=>if !decide (x12=0) then sh (nn (some (ak x8))) λx13=>lI x13 4 λx14=>AI ((ofBytes []),x14) else sh (nn (some (ak x8))) λx13=>sh (oA n (some (x13.plus 2))) λx14=>if decide (65536<x14) then AI ((ofBytes []),6) else sh (nn (some (ak x8))) λx15=>sh (lJ n (some (x15.plus 2))) λx16=>AI (x16,0)
abbrev aoo (n:Nat):cA:=eN 6 [.agg [.sl,.int .i64]] [mV,av] (eD n)
def aoq:=dR [(11,[0,1,2,4,3,5])]
def xr (n:Nat):aC TZp (aoo n):=aL Tryz.f6 (dr:=aoq) (hT:=.m1 (K32 n))
abbrev C33 (n:Nat):List cA:=aoo n::C32 n
def K33 (n:Nat):cS TZp (C33 n):=.cons (xr n) (K32 n)
def y7 (n:Nat)(a0:Sl×Int):M (ζ×Int):=nW ai [aA a0.1,vi a0.2] λx0=>gL (ak x0) λx1=>sh (eD n (x1.1,x1.2)) λx2=>AI (x2.1,x2.2)
abbrev ais (n:Nat):cA:=eN 11 [.agg [.sl,.int .i64]] [mV,av] (y7 n)
def Cz (n:Nat):aC TZp (ais n):=aL Tryz.f11 (hT:=.m1 (K33 n))
abbrev C34 (n:Nat):List cA:=ais n::C33 n
def K34 (n:Nat):cS TZp (C34 n):=.cons (Cz n) (K33 n)
def y8 (n:Nat):M Bool:=sh (eY n 2 (ofBytes [49])) λx0=>sh (eY n 2 (ofBytes [45,50])) λx1=>nW ai [aA x0.1,vi x0.2,aA x1.1,vi x1.2] λx2=>sh (KB n { a:=some (ak x2),len:=2,cap:=3 }) λx3=>nW ai [aI,vi 0] λx4=>sN (ak x4) [aA x3.1.1,vi x3.1.2] λx5=>sh (bX 14) λx6=>gL (ak x4) λx7=>sh (sM [some (ak x4)] (eY n 5 (ofBytes [98]))) λx8=>sh (sM [some (ak x4)] (eY n 5 (ofBytes [97]))) λx9=>sh (sM [some (ak x4)] (eY n 5 (ofBytes []))) λcH=>sh (gG (some (x6+6)) Ba [aA x8.1,vi x8.2,aA x7.1,vi x7.2,aA x9.1,vi x9.2,aA cH.1,vi cH.2]) λx11=>sh (MM n false { a:=some (ak x11),len:=2,cap:=3 }) λx12=>sh (gG (some (x6+11)) ai [aI,vi 0]) λx13=>sN (ak x13) [aA x12.1.1,vi x12.1.2] λx14=>gL (ak x13) λx15=>sh (eD n (x15.1,x15.2)) λx16=>sh (eY n 6 (ofBytes [255])) λx17=>sh (y7 n (x17.1,x17.2)) λx18=>sh (eY n 6 (ofBytes [97,98])) λx19=>sh (eD n (x19.1,x19.2)) λx20=>if decide (x3.2=0) then if decide (x12.2=0) then if oG x16.1 (ofBytes [100,49,58,97,48,58,49,58,98,108,105,49,101,105,45,50,101,101,101]) then if decide (x16.2=0) then if oG x18.1 (ofBytes [49,58,255]) then if decide (x18.2=0) then AI (decide (x20.2=11)) else AI false else AI false else AI false else AI false else AI false else AI false
abbrev ap5 (n:Nat):cA:=eN 5 [] [jd] (y8 n)
def aor:=dR [(2,[1,2000,2,2003,2004]++rG 5 9)]
def CA (n:Nat):aC TZp (ap5 n):=aL Tryz.f5 (dr:=aor) (hT:=.m1 (K34 n))
end Go.Sh
