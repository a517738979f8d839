
import Derived.Test.YtajnpfnomgjlaaaGreatDoorShLib
set_option linter.all false
set_option maxRecDepth 100000
set_option maxHeartbeats 0
namespace Go.Sh
open Go Go.Ago Go.Proofs Go.IntKind
noncomputable abbrev TZp:=Tryz.prog
abbrev J11:=Int×Int×Int×Int×Int×Int×Int×Int×Int×Int×Int
abbrev C0 (n:Nat):List dv:=[⟨66,[.one (.str)],[.one (.int .i64),.one (.int .i64)],λx=>ma n x⟩,⟨107,[.one (.str),.one (.int .u8)],[.one (.int .i64)],υ2 (strings_IndexByte n)⟩,⟨108,[.one (.str)],[.one (.int .i64),.one (.raw)],λx=>strconv_Atoi n x⟩,⟨109,[.one (.str),.one (.str)],[.one (.str)],υ2 (strings_TrimPrefix n)⟩,⟨172,[.one (.str),.one (.str)],[.one (.int .i64)],υ2 (fV n)⟩,⟨143,[.one (.int .u64)],[.one (.f64)],λx=>bY n x⟩,⟨75,[.one (.ptr)],[.one (.ptr)],λx=>rV n x⟩,⟨156,[.one (.str),.one (.str)],[.one (.str)],υ2 (fq n)⟩,⟨114,[.one (.str),.one (.str)],[.one (.str),.one (.bool)],υ2 (strings_CutPrefix n)⟩,⟨179,[.one (.int .u64),.one (.int .i64)],[.one (.str)],υ2 (eK n)⟩,⟨178,[.one (.int .u64)],[.one (.int .i64)],λx=>bN n x⟩,⟨181,[.one (.str),.one (.int .i64)],[.one (.str)],υ2 (strings_Repeat n)⟩,⟨118,[.one (.str),.one (.int .i64),.one (.int .i64)],[.one (.int .u64),.one (.raw)],υ3 (eG n)⟩,⟨85,[.one (.int .u64)],[.one (.int .i64)],λx=>eT n x⟩,⟨152,[.one (.f64)],[.one (.int .u64)],λx=>ep n x⟩,⟨86,[.one (.str),.one (.str)],[.one (.int .i64)],υ2 (cT n)⟩,⟨55,[.one (.str)],[.one (.bool)],λx=>eW n x⟩,⟨60,[.one (.int .i64)],[.one (.str)],λx=>strconv_Itoa n x⟩]
theorem K0 (n:Nat):eE TZp (C0 n):=.cons (Bs n) (.cons (zo n) (.cons (strconv_Atoi_ok n) (.cons (yP n) (.cons (yd n) (.cons (xo n) (.cons (Cr n) (.cons (zp n) (.cons (zq n) (.cons (xp n) (.cons (uH n) (.cons (Cq n) (.cons (zr n) (.cons (Bt n) (.cons (Ax n) (.cons (p7 n) (.cons (u7 n) (.cons (EE n) .nil)))))))))))))))))
def nw (G:Addr->Int->Int->Int->M ((Int×Int)⊕Bool))(n:Nat)(a0:Addr)(a1 a2 a3:Int)(a4:Addr):M ((Int×Int)⊕Bool):=sh (aq .sl (a4.plus 3)) λ(x0:Sl)=>sh (aq .sl (a4.plus 4)) λ(x1:Sl)=>sh (aq .str (a4.plus 1)) λ(x2:ζ)=>G a0 (i64.wrap (a1+i64.wrap ((x0.len:Int)+(x1.len:Int)))) (i64.wrap (a2+(↑(ByteArray.size x2):Int))) (i64.wrap (a3+1))
def py (G:Addr->Int->Int->Int->M ((Int×Int)⊕Bool))(n:Nat)(a0:Addr)(a1 a2 a3:Int):M ((Int×Int)⊕Bool):=sh (aq .sl (a0.plus 0)) λ(x0:Sl)=>if decide (a3<(x0.len:Int)) then sh (aq .sl (a0.plus 0)) λ(x1:Sl)=>sh (ar x1 a3 5) λx2=>sh (aE [li,.str,.bool,.sl,.sl] x2) λ(x3:Int×ζ×Bool×Sl×Sl)=>sh (aF none aA [vi 0,.string (ofBytes []),.bool false,aO,aO]) λx4=>sh (bh (al x4) [vi x3.1,.string x3.2.1,.bool x3.2.2.1,aI x3.2.2.2.1,aI x3.2.2.2.2]) λx5=>sh (aq .str ((al x4).plus 1)) λ(x6:ζ)=>if decide (100<(↑(ByteArray.size x6):Int)) then AI (Sum.inr false) else sh (aq .sl ((al x4).plus 3)) λ(x7:Sl)=>if decide (80<(x7.len:Int)) then AI (Sum.inr false) else sh (aq .sl ((al x4).plus 4)) λ(x8:Sl)=>if decide (80<(x8.len:Int)) then AI (Sum.inr false) else nw G n a0 a1 a2 a3 (al x4) else AI (Sum.inl (a1,a2))
def fW:Nat->Addr->Int->Int->Int->M ((Int×Int)⊕Bool)|0=>λ_ _ _ _=>AS|n+1=>py (fW n) n
theorem wX (n:Nat):fW (n+1)=py (fW n) n:=rfl
def ye (n:Nat):=nw (fW n) n
def nR (n:Nat)(a0:Sl×Int):M Bool:=sh (aF none aj [aI a0.1,vi a0.2]) λx0=>sh (aq .sl ((al x0).plus 0)) λ(x1:Sl)=>if decide (40<(x1.len:Int)) then AI false else sh (fW n (al x0) 0 0 0) (cz (λx2=>if decide (x2.1<=240) then AI (decide (x2.2<=300)) else AI false) (λx2=>AI x2))
abbrev aiA (n:Nat):dv:=⟨4,[.agg [.sl,.int .i64]],[lS],λx=>nR n x⟩
abbrev QT:L2:=⟨[0,1,0,1,1,1],[(1,aB),(3,aw),(4,aw),(5,aw)],[(3,aw),(4,aw)],[(2,lS)],List.range' 2 5++List.range' 11 42,0,.ret,λn=>υ4 (fW n)⟩
abbrev Wd (n:Nat):List (jm ((Int×Int)⊕Bool)):=[⟨[0,1,1,0,0,1,0,0,1,0,1,1,1],[.code [1,1,1,0,0,1,0,0,1,0,1,1,1],.au 1,.code [1,1,0,0,1,0,1,1,1]],[(1,aB),(3,aw),(4,aw),(5,aw),(6,aB)],υ5 (ye n)⟩]
theorem We (n:Nat):lA TZp Tryz.f4 (QT.e n) QT.ws:=L2.ok Tryz.f4 QT n C0 (jt:=Wd) (hT:=λm _=>⟨.nil,K0 m,.nil,.nil,(.cc .nil)⟩)
theorem Ay (n:Nat):aK TZp (aiA n):=bw Tryz.f4 (C0 n) (ll:=[QT.e n]) (hT:=⟨.nil,K0 n,.nil,(.cc (We n) .nil),.nil⟩)
def lB (G:Addr->Bool->Sl->Int->Int->Sl->Int->Int->Sl->Int->Int->M Bool)(n:Nat)(a0:Addr)(a1:Bool)(a2:Sl)(a3 a4:Int)(a5:Sl)(a6 a7:Int)(a8:Sl)(a9 a10:Int):M Bool:=if decide (a10<a9) then sh (ar a8 a10 1) λx0=>sh (aq li x0) λ(x1:Int)=>if a1 then if decide (0<=x1) then sh (aq .sl (a0.plus 0)) λ(x2:Sl)=>G a0 (decide (x1<(x2.len:Int))) a2 a3 a4 a5 a6 a7 a8 a9 (i64.wrap (a10+1)) else G a0 false a2 a3 a4 a5 a6 a7 a8 a9 (i64.wrap (a10+1)) else G a0 false a2 a3 a4 a5 a6 a7 a8 a9 (i64.wrap (a10+1)) else AI a1
def gO:Nat->Addr->Bool->Sl->Int->Int->Sl->Int->Int->Sl->Int->Int->M Bool|0=>λ_ _ _ _ _ _ _ _ _ _ _=>AS|n+1=>lB (gO n) n
theorem yQ (n:Nat):gO (n+1)=lB (gO n) n:=rfl
def gI (G:Addr->Bool->Sl->Int->Int->Sl->Int->Int->M Bool)(n:Nat)(a0:Addr)(a1:Bool)(a2:Sl)(a3 a4:Int)(a5:Sl)(a6 a7:Int):M Bool:=if decide (a7<a6) then sh (ar a5 a7 1) λx0=>sh (aq .sl x0) λ(x1:Sl)=>sh (gO n a0 a1 a2 a3 a4 a5 a6 a7 x1 (x1.len:Int) 0) λx2=>G a0 x2 a2 a3 a4 a5 a6 (i64.wrap (a7+1)) else AI a1
def gP:Nat->Addr->Bool->Sl->Int->Int->Sl->Int->Int->M Bool|0=>λ_ _ _ _ _ _ _ _=>AS|n+1=>gI (gP n) n
theorem pz (n:Nat):gP (n+1)=gI (gP n) n:=rfl
def lC (G:Addr->Bool->Sl->Int->Int->M Bool)(n:Nat)(a0:Addr)(a1:Bool)(a2:Sl)(a3 a4:Int):M Bool:=if decide (a4<a3) then sh (ar a2 a4 5) λx0=>sh (aE [li,.str,.bool,.sl,.sl] x0) λ(x1:Int×ζ×Bool×Sl×Sl)=>sh (aF none aA [vi 0,.string (ofBytes []),.bool false,aO,aO]) λx2=>sh (bh (al x2) [vi x1.1,.string x1.2.1,.bool x1.2.2.1,aI x1.2.2.2.1,aI x1.2.2.2.2]) λx3=>sh (aq .sl ((al x2).plus 3)) λ(x4:Sl)=>sh (aq .sl ((al x2).plus 4)) λ(x5:Sl)=>sh (aF none aR [aI x4,aI x5]) λx6=>sh (gP n a0 a1 a2 a3 a4 { a:=some (al x6),len:=2,cap:=3 } (↑2:Int) 0) λx7=>G a0 x7 a2 a3 (i64.wrap (a4+1)) else AI a1
def gQ:Nat->Addr->Bool->Sl->Int->Int->M Bool|0=>λ_ _ _ _ _=>AS|n+1=>lC (gQ n) n
theorem yR (n:Nat):gQ (n+1)=lC (gQ n) n:=rfl
def jf (n:Nat)(a0:Addr)(a1:Bool):M Bool:=sh (aq .sl (a0.plus 0)) λ(x0:Sl)=>sh (gQ n a0 a1 x0 (x0.len:Int) 0) λx1=>AI x1
def pf (n:Nat)(a0:Sl×Int):M Bool:=sh (aF none aj [aI a0.1,vi a0.2]) λx0=>sh (aq li ((al x0).plus 1)) λ(x1:Int)=>if decide (0<=x1) then sh (aq li ((al x0).plus 1)) λ(x2:Int)=>sh (aq .sl ((al x0).plus 0)) λ(x3:Sl)=>jf n (al x0) (decide (x2<(x3.len:Int))) else jf n (al x0) false
abbrev acv (n:Nat):dv:=⟨23,[.agg [.sl,.int .i64]],[lS],λx=>pf n x⟩
abbrev Jo:L1:=⟨[0,1,0,1,1],[(1,aB),(3,lS),(22,cw),(23,aw),(24,aw)],[(3,lS)],[3,5,7,9]++List.range' 24 35,0,λn=>υ5 (gQ n)⟩
abbrev Jp:L1:=⟨[0,1,1,0,0,1,1,0,0,1,0,1,1],[(1,aB),(3,lS),(22,cw),(23,aw),(24,aw),(32,cw),(33,aw),(34,aw)],[(3,lS)],[3,7,9]++List.range' 34 24,2,λn=>υ8 (gP n)⟩
abbrev Jq:L1:=⟨[0,1,1,0,0,1,1,0,0,1,1,0,0,1,1,0,0,1,0,1,1],[(1,aB),(3,lS),(22,cw),(23,aw),(24,aw),(32,cw),(33,aw),(34,aw),(38,cw),(39,aw),(40,aw)],[(3,lS)],[3,9]++List.range' 40 17,4,λn=>υ11 (gO n)⟩
abbrev aex (n:Nat):List (jm Bool):=[⟨[0,0,1,1],[.code [1,0,1,1],.code [1,1,1]],[(1,aB),(3,lS)],υ2 (jf n)⟩]
theorem Sz (n:Nat):lA TZp Tryz.f23 (Jq.e n) Jq.ws:=L1.ok Tryz.f23 Jq n C0 (hT:=λm _=>.m1 (K0 m))
theorem SA (n:Nat):lA TZp Tryz.f23 (Jp.e n) Jp.ws:=L1.ok Tryz.f23 Jp n C0 (lt:=λn=>[Jq.e n]) (hT:=λm _=>⟨.nil,K0 m,.nil,(.cc (Sz m) .nil),.nil⟩)
theorem SB (n:Nat):lA TZp Tryz.f23 (Jo.e n) Jo.ws:=L1.ok Tryz.f23 Jo n C0 (lt:=λn=>[Jp.e n]) (hT:=λm _=>⟨.nil,K0 m,.nil,(.cc (SA m) .nil),.nil⟩)
theorem Dp (n:Nat):aK TZp (acv n):=bw Tryz.f23 (C0 n) (ll:=[Jo.e n]) (js:=aex n) (hT:=⟨.nil,K0 n,.nil,(.cc (SB n) .nil),(.cc .nil)⟩)
structure aM where
 eO:Int->Addr->Addr->Sl->Int->Int->M Unit
 eP:Addr->Sl->Int->Int->M Unit
 ef:Int->Addr->Addr->Addr->M Unit
def dX (G:aM)(n:Nat)(x:ξ)(a0:Int):M Unit:=if qo pH x then sh (k7 [aB,aB,aB] x) λ(c:Addr×Addr×Addr)=>G.ef a0 c.1 c.2.1 c.2.2 else AS
abbrev lO:=dX
def jx (G:aM)(n:Nat)(a0:Int)(a1 a2:Addr)(a3:Sl)(a4 a5:Int):M Unit:=if decide (a5<a4) then sh (ar a3 a5 1) λx0=>sh (aq li x0) λ(x1:Int)=>sh (aq .raw a2) λ(x2:ξ)=>sh (dX G n x2 x1) λx3=>G.eO a0 a1 a2 a3 a4 (i64.wrap (a5+1)) else AI ()
def jy (G:aM)(n:Nat)(a0:Addr)(a1:Sl)(a2 a3:Int):M Unit:=if decide (a3<a2) then sh (ar a1 a3 1) λx0=>sh (aq li x0) λ(x1:Int)=>sh (aq .raw a0) λ(x2:ξ)=>sh (lO G n x2 x1) λx3=>G.eP a0 a1 a2 (i64.wrap (a3+1)) else AI ()
def mI (G:aM)(n:Nat)(a0:Int)(a1 a2 a3:Addr):M Unit:=sh (aq .sl a1) λ(x0:Sl)=>sh (ar x0 a0 1) λx1=>sh (aq .bool x1) λ(x2:Bool)=>if x2 then AI () else sh (aq .sl a1) λ(x3:Sl)=>sh (ar x3 a0 1) λx4=>sh (bh x4 [.bool true]) λx5=>sh (aq .sl (a2.plus 0)) λ(x6:Sl)=>sh (ar x6 a0 5) λx7=>sh (aq .sl (x7.plus 3)) λ(x8:Sl)=>sh (G.eO a0 a2 a3 x8 (x8.len:Int) 0) λx9=>sh (aq .sl (a2.plus 0)) λ(fD:Sl)=>sh (ar fD a0 5) λx11=>sh (aq .sl (x11.plus 4)) λ(x12:Sl)=>sh (G.eP a3 x12 (x12.len:Int) 0) λx13=>AI ()
def aM.at:Nat->aM|0=>⟨λ_ _ _ _ _ _=>AS,λ_ _ _ _=>AS,λ_ _ _ _=>AS⟩|n+1=>⟨jx (aM.at n) n,jy (aM.at n) n,mI (aM.at n) n⟩
def eO (n:Nat):=(aM.at n).eO
theorem xq (n:Nat):eO (n+1)=jx (aM.at n) n:=rfl
def eP (n:Nat):=(aM.at n).eP
theorem xr (n:Nat):eP (n+1)=jy (aM.at n) n:=rfl
def ef (n:Nat):=(aM.at n).ef
theorem zt (n:Nat):ef (n+1)=mI (aM.at n) n:=rfl
def Az (n:Nat):=dX (aM.at n) n
def AA (n:Nat):=lO (aM.at n) n
abbrev QU (n:Nat):dv:=⟨45,[aw,aB,aB,aB],[],υ4 (ef n)⟩
abbrev Jr:L1:=⟨[0,1,0,1,1],[(0,aw),(2,aB),(3,aB),(21,cw),(22,aw),(23,aw)],[],[6]++List.range' 23 8,0,λn=>υ6 (eO n)⟩
abbrev Js:L1:=⟨[0,1,1,1,1],[(3,aB),(36,cw),(37,aw),(38,aw)],[],[8]++List.range' 38 8,2,λn=>υ4 (eP n)⟩
abbrev C1 (n:Nat):List dv:=QU n::C0 n
abbrev Jt (n:Nat):List oZ:=[⟨27,[aw],[],λx a=>Az n x a⟩, ⟨42,[aw],[],λx a=>AA n x a⟩]
def jZ (n:Nat):Prop:=aK TZp (QU n)
theorem aaJ (n:Nat)(H:jZ n):eE TZp (C1 n):=.cons H (K0 n)
theorem O8 (n:Nat)(H:jZ n):pK TZp (Jt n):=.cons (cS (l:=[⟨45,[aB,aB,aB],λa c=>ef n a c.1 c.2.1 c.2.2⟩]) (.cons (λa c=>aD (by kernel_rfl) ((H) (a,c.1,c.2.1,c.2.2))) .nil) (λx a=>by kernel_rfl)) (.cons (cS (l:=[⟨45,[aB,aB,aB],λa c=>ef n a c.1 c.2.1 c.2.2⟩]) (.cons (λa c=>aD (by kernel_rfl) ((H) (a,c.1,c.2.1,c.2.2))) .nil) (λx a=>by kernel_rfl)) .nil)
theorem SC (n:Nat)(H:∀m,m<n->jZ m):lA TZp Tryz.f45 (Jr.e n) Jr.ws:=L1.ok Tryz.f45 Jr n C1 (dt:=Jt) (hT:=λm hm=>⟨.nil,aaJ m (H m hm),(O8 m (H m hm)),.nil,.nil⟩)
theorem SD (n:Nat)(H:∀m,m<n->jZ m):lA TZp Tryz.f45 (Js.e n) Js.ws:=L1.ok Tryz.f45 Js n C1 (dt:=Jt) (hT:=λm hm=>⟨.nil,aaJ m (H m hm),(O8 m (H m hm)),.nil,.nil⟩)
theorem xt (n:Nat)(H:∀m,m<n+1->jZ m):aK TZp (QU (n+1)):=bw Tryz.f45 (C1 n) (dl:=Jt n) (ll:=[Jr.e n,Js.e n]) (hT:=⟨.nil,aaJ n (H n (IT n)),(O8 n (H n (IT n))),(.cc (SC n (λk hk=>H k (adf hk))) (.cc (SD n (λk hk=>H k (adf hk))) .nil)),.nil⟩)
theorem tn:∀n m,m<n->jZ m:=by
 intro n
 induction n with
 |zero=>intro m hm;exact absurd hm (ahR m)
 |succ n ih=>
  intro m hm;cases m with
  |zero=>exact gf (fn:=Tryz.f45) (by kernel_rfl) (by kernel_rfl) (by kernel_rfl) (λ_=>rfl)
  |succ k=>exact xt k λm hm=>ih m (by omega)
theorem Bu (n:Nat):aK TZp (QU n):=(tn (n+1) n (IT n))
theorem K1 (n:Nat):eE TZp (C1 n):=aaJ n (tn (n+1) n (IT n))
def mJ (G:Sl->M Sl)(n:Nat)(a0:Sl):M Sl:=if decide (0<(a0.len:Int)) then sh (ar a0 (i64.wrap ((a0.len:Int)-1)) 1) λx0=>sh (aq (.int IntKind.u8) x0) λ(x1:Int)=>if decide (x1=0) then sh (gm a0 0 (i64.wrap ((a0.len:Int)-1)) jT 1) λx2=>G x2 else AI a0 else AI a0
def gu:Nat->Sl->M Sl|0=>λ_=>AS|n+1=>mJ (gu n) n
theorem zu (n:Nat):gu (n+1)=mJ (gu n) n:=rfl
def rW (n:Nat)(a0:Sl):M Sl:=sh (gu n a0) λx0=>AI x0
abbrev Wf (n:Nat):dv:=⟨106,[cw],[cw],λx=>rW n x⟩
abbrev Fo:L1:=⟨[0,0,1],[(0,cw)],[(0,cw)],[0]++List.range' 3 17,0,λn x=>gu n x⟩
theorem Pb (n:Nat):lA TZp Tryz.f106 (Fo.e n) Fo.ws:=L1.ok Tryz.f106 Fo n C1 (hT:=λm _=>.m1 (K1 m))
theorem EG (n:Nat):aK TZp (Wf n):=bw Tryz.f106 (C1 n) (ll:=[Fo.e n]) (hT:=⟨.nil,K1 n,.nil,(.cc (Pb n) .nil),.nil⟩)
def mK (G:Bool->Sl->Int->Addr->M (Sl×Int))(n:Nat)(a0:Bool)(a1:Sl)(a2:Int)(a3:Addr):M (Sl×Int):=if decide (0<(a1.len:Int)) then sh (ar a1 (i64.wrap ((a1.len:Int)-1)) 1) λx0=>sh (aq (.int IntKind.u8) x0) λ(x1:Int)=>if decide (x1=0) then sh (gm a1 0 (i64.wrap ((a1.len:Int)-1)) jT 1) λx2=>G a0 x2 (i64.wrap (a2+1)) a3 else AI (a1,a2) else AI (a1,a2)
def iO:Nat->Bool->Sl->Int->Addr->M (Sl×Int)|0=>λ_ _ _ _=>AS|n+1=>mK (iO n) n
theorem zw (n:Nat):iO (n+1)=mK (iO n) n:=rfl
def mM (G:Bool->Sl->Int->Addr->M Sl)(n:Nat)(a0:Bool)(a1:Sl)(a2:Int)(a3:Addr):M Sl:=if decide (0<(a1.len:Int)) then sh (ar a1 0 1) λx0=>sh (aq (.int IntKind.u8) x0) λ(x1:Int)=>if decide (x1=0) then sh (gm a1 1 (a1.len:Int) jT 1) λx2=>G a0 x2 a2 a3 else AI a1 else AI a1
def iP:Nat->Bool->Sl->Int->Addr->M Sl|0=>λ_ _ _ _=>AS|n+1=>mM (iP n) n
theorem zx (n:Nat):iP (n+1)=mM (iP n) n:=rfl
def p8 (n:Nat)(a0:Bool)(a1:Sl)(a2:Int):M (Bool×Sl×Int):=sh (aF none bW [.bool false,aO,vi 0]) λx0=>sh (iP n a0 a1 a2 (al x0)) λx1=>sh (iO n a0 x1 a2 (al x0)) λx2=>if decide ((x2.1.len:Int)=0) then sh (bh (al x0) [.bool false,aO,vi 0]) λx3=>sh (aE [.bool,.sl,li] (al x0)) λ(x4:Bool×Sl×Int)=>AI (x4.1,x4.2.1,x4.2.2) else sh (qM none jT [.int IntKind.u8 0] (x2.1.len:Int) (x2.1.len:Int)) λx3=>sh (rh x3 x2.1 1) λx4=>sh (bh (al x0) [.bool a0,aI x3,vi x2.2]) λx5=>sh (aE [.bool,.sl,li] (al x0)) λ(x6:Bool×Sl×Int)=>AI (x6.1,x6.2.1,x6.2.2)
abbrev Wg (n:Nat):dv:=⟨110,[lS,cw,aw],[.agg [.bool,.sl,.int .i64]],υ3 (p8 n)⟩
abbrev Fp:L1:=⟨[0,0,1],[(0,lS),(1,cw),(2,aw),(6,aB)],[(1,cw)],[1]++List.range' 8 11,0,λn=>υ4 (iP n)⟩
abbrev Fq:L1:=⟨[0,0,1,1],[(0,lS),(1,cw),(2,aw),(6,aB)],[(1,cw),(2,aw)],[1,2]++List.range' 19 19,2,λn=>υ4 (iO n)⟩
theorem Pc (n:Nat):lA TZp Tryz.f110 (Fq.e n) Fq.ws:=L1.ok Tryz.f110 Fq n C1 (hT:=λm _=>.m1 (K1 m))
theorem Pe (n:Nat):lA TZp Tryz.f110 (Fp.e n) Fp.ws:=L1.ok Tryz.f110 Fp n C1 (hT:=λm _=>.m1 (K1 m))
theorem EH (n:Nat):aK TZp (Wg n):=bw Tryz.f110 (C1 n) (ll:=[Fp.e n,Fq.e n]) (hT:=⟨.nil,K1 n,.nil,(.cc (Pe n) (.cc (Pc n) .nil)),.nil⟩)
def lD (G:ζ->Sl->Int->Int->M Unit)(n:Nat)(a0:ζ)(a1:Sl)(a2 a3:Int):M Unit:=if decide (a3<a2) then sh (oL a0 a3) λx0=>sh (ar a1 a3 1) λx1=>sh (bh x1 [.int IntKind.u8 (IntKind.u8.wrap ((x0.toNat:Int)-48))]) λx2=>G a0 a1 a2 (i64.wrap (a3+1)) else AI ()
def gR:Nat->ζ->Sl->Int->Int->M Unit|0=>λ_ _ _ _=>AS|n+1=>lD (gR n) n
theorem yS (n:Nat):gR (n+1)=lD (gR n) n:=rfl
def pg (n:Nat)(a0:ζ):M Sl:=sh (qM none jT [.int IntKind.u8 0] (a0.size:Int) (a0.size:Int)) λx0=>sh (gR n a0 x0 (a0.size:Int) 0) λx1=>AI x0
abbrev Wh (n:Nat):dv:=⟨111,[qG],[cw],λx=>pg n x⟩
abbrev Fs:L1:=⟨[0,1,0,1,1],[(0,qG),(3,cw),(9,aw),(10,aw)],[],[4]++List.range' 10 11,0,λn=>υ4 (gR n)⟩
theorem Pf (n:Nat):lA TZp Tryz.f111 (Fs.e n) Fs.ws:=L1.ok Tryz.f111 Fs n C1 (hT:=λm _=>.m1 (K1 m))
theorem Dq (n:Nat):aK TZp (Wh n):=bw Tryz.f111 (C1 n) (ll:=[Fs.e n]) (hT:=⟨.nil,K1 n,.nil,(.cc (Pf n) .nil),.nil⟩)
def j5 (n:Nat)(a0:Bool×Sl×Int):M Int:=sh (aF none bW [.bool a0.1,aI a0.2.1,vi a0.2.2]) λx0=>sh (aq .sl ((al x0).plus 1)) λ(x1:Sl)=>if decide (400<(x1.len:Int)) then AI 6 else sh (aq li ((al x0).plus 2)) λ(x2:Int)=>if decide (x2 < -2000) then AI 2 else sh (aq li ((al x0).plus 2)) λ(x3:Int)=>if decide (2000<x3) then AI 2 else AI 0
abbrev Wi (n:Nat):dv:=⟨112,[.agg [.bool,.sl,.int .i64]],[aw],λx=>j5 n x⟩
theorem zy (n:Nat):aK TZp (Wi n):=bw Tryz.f112 (C1 n) (hT:=.m1 (K1 n))
def lh (n:Nat)(a0:Bool×Sl×Int):M ζ:=sh (aF none bW [.bool a0.1,aI a0.2.1,vi a0.2.2]) λx0=>sh (aq .bool ((al x0).plus 0)) λ(x1:Bool)=>if x1 then AI (ofBytes [45]) else AI (ofBytes [])
abbrev Wj (n:Nat):dv:=⟨170,[.agg [.bool,.sl,.int .i64]],[qG],λx=>lh n x⟩
theorem AB (n:Nat):aK TZp (Wj n):=bw Tryz.f170 (C1 n) (hT:=.m1 (K1 n))
def gS (G:Sl->Sl->Int->Int->M Unit)(n:Nat)(a0 a1:Sl)(a2 a3:Int):M Unit:=if decide (a3<a2) then sh (ar a1 a3 1) λx0=>sh (aq (.int IntKind.u8) x0) λ(x1:Int)=>sh (ar a0 a3 1) λx2=>sh (bh x2 [.int IntKind.u8 (IntKind.u8.wrap (48+x1))]) λx3=>G a0 a1 a2 (i64.wrap (a3+1)) else AI ()
def dY:Nat->Sl->Sl->Int->Int->M Unit|0=>λ_ _ _ _=>AS|n+1=>gS (dY n) n
theorem vM (n:Nat):dY (n+1)=gS (dY n) n:=rfl
def jg (n:Nat)(a0:Bool×Sl×Int):M ζ:=sh (aF none bW [.bool a0.1,aI a0.2.1,vi a0.2.2]) λx0=>sh (aq .sl ((al x0).plus 1)) λ(x1:Sl)=>sh (qM none jT [.int IntKind.u8 0] (x1.len:Int) (x1.len:Int)) λx2=>sh (aq .sl ((al x0).plus 1)) λ(x3:Sl)=>sh (dY n x2 x3 (x3.len:Int) 0) λx4=>sh (strOf x2) λx5=>AI x5
abbrev Wl (n:Nat):dv:=⟨171,[.agg [.bool,.sl,.int .i64]],[qG],λx=>jg n x⟩
abbrev Ft:L1:=⟨[0,1,0,1,1],[(3,cw),(11,cw),(12,aw),(13,aw)],[],[4,5]++List.range' 13 11,0,λn=>υ4 (dY n)⟩
theorem Pg (n:Nat):lA TZp Tryz.f171 (Ft.e n) Ft.ws:=L1.ok Tryz.f171 Ft n C1 (hT:=λm _=>.m1 (K1 m))
theorem yT (n:Nat):aK TZp (Wl n):=bw Tryz.f171 (C1 n) (ll:=[Ft.e n]) (hT:=⟨.nil,K1 n,.nil,(.cc (Pg n) .nil),.nil⟩)
def yf (n a0:Nat):M Bool:=AI !Hw a0 a0
abbrev Wm (n:Nat):dv:=⟨175,[.one (.f64)],[lS],λx=>yf n x⟩
theorem HK (n:Nat):aK TZp (Wm n):=bw Tryz.f175 (C1 n) (hT:=.m1 (K1 n))
def kL (G:Addr->Addr->Int->Int->Int->M (Int⊕(Int×Bool)))(n:Nat)(a0 a1:Addr)(a2 a3 a4:Int):M (Int⊕(Int×Bool)):=sh (aq .str a1) λ(x0:ζ)=>sh (aq li a0) λ(x1:Int)=>sh (oL x0 x1) λx2=>sh (aq li a0) λ(x3:Int)=>sh (bh a0 [vi (i64.wrap (x3+1))]) λx4=>G a0 a1 (i64.wrap (i64.wrap (10*a2)+i64.wrap (IntKind.u8.wrap ((x2.toNat:Int)-48)))) a3 (i64.wrap (a4+1))
def fX (G:Addr->Addr->Int->Int->Int->M (Int⊕(Int×Bool)))(n:Nat)(a0 a1:Addr)(a2 a3 a4:Int):M (Int⊕(Int×Bool)):=if decide (a4<a3) then sh (aq li a0) λ(x0:Int)=>sh (aq .str a1) λ(x1:ζ)=>if decide ((↑(ByteArray.size x1):Int)<=x0) then AI (Sum.inr (0,false)) else sh (aq .str a1) λ(x2:ζ)=>sh (aq li a0) λ(x3:Int)=>sh (oL x2 x3) λx4=>if decide ((x4.toNat:Int)<48) then AI (Sum.inr (0,false)) else sh (aq .str a1) λ(x5:ζ)=>sh (aq li a0) λ(x6:Int)=>sh (oL x5 x6) λx7=>if decide (57<(x7.toNat:Int)) then AI (Sum.inr (0,false)) else kL G n a0 a1 a2 a3 a4 else AI (Sum.inl a2)
def fu:Nat->Addr->Addr->Int->Int->Int->M (Int⊕(Int×Bool))|0=>λ_ _ _ _ _=>AS|n+1=>fX (fu n) n
def zA (n:Nat):=kL (fu n) n
def jz (n:Nat)(a0:Int)(a1 a2:Addr):M (Int×Bool):=sh (fu n a1 a2 0 a0 0) (cz (λx0=>AI (x0,true)) (λx0=>AI (x0.1,x0.2)))
abbrev Wn (n:Nat):dv:=⟨124,[aw,aB,aB],[aw,lS],υ3 (jz n)⟩
abbrev Fu:L2:=⟨[0,1,0,1,1],[(1,aB),(2,aB),(6,aw),(7,aw),(8,aw)],[(6,aw)],[(4,aw),(5,lS)],[4,5,6]++List.range' 8 29,0,.ret,λn=>υ5 (fu n)⟩
abbrev Ph (n:Nat):List (jm (Int⊕(Int×Bool))):=[⟨[0,1,0,0,1,1,0,0,1,0,1,1],[.code [1,1,0,0,1,1,0,0,1,0,1,1],.au 1,.code [1,1,1,0,0,1,0,1,1]],[(1,aB),(2,aB),(6,aw),(7,aw),(8,aw)],υ5 (zA n)⟩]
theorem Pj (n:Nat):lA TZp Tryz.f124 (Fu.e n) Fu.ws:=L2.ok Tryz.f124 Fu n C1 (jt:=Ph) (hT:=λm _=>⟨.nil,K1 m,.nil,.nil,(.cc .nil)⟩)
theorem wH (n:Nat):aK TZp (Wn n):=bw Tryz.f124 (C1 n) (ll:=[Fu.e n]) (hT:=⟨.nil,K1 n,.nil,(.cc (Pj n) .nil),.nil⟩)
def tE (n:Nat)(a0:Int):M Bool:=sh (px (decide (4≠0))) λx0=>if decide (a0.tmod 4=0) then sh (px (decide (100≠0))) λx1=>if !decide (a0.tmod 100=0) then AI true else sh (px (decide (400≠0))) λx2=>AI (decide (a0.tmod 400=0)) else AI false
abbrev Wo (n:Nat):dv:=⟨180,[aw],[lS],λx=>tE n x⟩
theorem HN (n:Nat):aK TZp (Wo n):=bw Tryz.f180 (C1 n) (hT:=.m1 (K1 n))
def pL (n:Nat)(a0:Int):M Int:=sh (px (decide (4≠0))) λx0=>sh (px (decide (100≠0))) λx1=>sh (px (decide (400≠0))) λx2=>AI (i64.wrap (i64.wrap (i64.wrap (i64.wrap (365*a0)+i64.wrap ((i64.wrap (a0+3)).tdiv 4))-i64.wrap ((i64.wrap (a0+99)).tdiv 100))+i64.wrap ((i64.wrap (a0+399)).tdiv 400)))
abbrev Wq (n:Nat):dv:=⟨154,[aw],[aw],λx=>pL n x⟩
theorem GD (n:Nat):aK TZp (Wq n):=bw Tryz.f154 (C1 n) (hT:=.m1 (K1 n))
def kj (G:ζ->Int->Int->M (Unit⊕Bool))(n:Nat)(a0:ζ)(a1 a2:Int):M (Unit⊕Bool):=if decide (a2<a1) then sh (oL a0 a2) λx0=>if decide (97<=(x0.toNat:Int)) then if decide ((x0.toNat:Int)<=122) then G a0 a1 (i64.wrap (a2+1)) else if decide (65<=(x0.toNat:Int)) then if decide ((x0.toNat:Int)<=90) then G a0 a1 (i64.wrap (a2+1)) else if decide (48<=(x0.toNat:Int)) then if decide ((x0.toNat:Int)<=57) then G a0 a1 (i64.wrap (a2+1)) else if decide ((x0.toNat:Int)=95) then G a0 a1 (i64.wrap (a2+1)) else if decide ((x0.toNat:Int)=45) then G a0 a1 (i64.wrap (a2+1)) else if decide ((x0.toNat:Int)=46) then G a0 a1 (i64.wrap (a2+1)) else if !decide ((x0.toNat:Int)=58) then AI (Sum.inr false) else G a0 a1 (i64.wrap (a2+1)) else if decide ((x0.toNat:Int)=95) then G a0 a1 (i64.wrap (a2+1)) else if decide ((x0.toNat:Int)=45) then G a0 a1 (i64.wrap (a2+1)) else if decide ((x0.toNat:Int)=46) then G a0 a1 (i64.wrap (a2+1)) else if !decide ((x0.toNat:Int)=58) then AI (Sum.inr false) else G a0 a1 (i64.wrap (a2+1)) else if decide (48<=(x0.toNat:Int)) then if decide ((x0.toNat:Int)<=57) then G a0 a1 (i64.wrap (a2+1)) else if decide ((x0.toNat:Int)=95) then G a0 a1 (i64.wrap (a2+1)) else if decide ((x0.toNat:Int)=45) then G a0 a1 (i64.wrap (a2+1)) else if decide ((x0.toNat:Int)=46) then G a0 a1 (i64.wrap (a2+1)) else if !decide ((x0.toNat:Int)=58) then AI (Sum.inr false) else G a0 a1 (i64.wrap (a2+1)) else if decide ((x0.toNat:Int)=95) then G a0 a1 (i64.wrap (a2+1)) else if decide ((x0.toNat:Int)=45) then G a0 a1 (i64.wrap (a2+1)) else if decide ((x0.toNat:Int)=46) then G a0 a1 (i64.wrap (a2+1)) else if !decide ((x0.toNat:Int)=58) then AI (Sum.inr false) else G a0 a1 (i64.wrap (a2+1)) else if decide (65<=(x0.toNat:Int)) then if decide ((x0.toNat:Int)<=90) then G a0 a1 (i64.wrap (a2+1)) else if decide (48<=(x0.toNat:Int)) then if decide ((x0.toNat:Int)<=57) then G a0 a1 (i64.wrap (a2+1)) else if decide ((x0.toNat:Int)=95) then G a0 a1 (i64.wrap (a2+1)) else if decide ((x0.toNat:Int)=45) then G a0 a1 (i64.wrap (a2+1)) else if decide ((x0.toNat:Int)=46) then G a0 a1 (i64.wrap (a2+1)) else if !decide ((x0.toNat:Int)=58) then AI (Sum.inr false) else G a0 a1 (i64.wrap (a2+1)) else if decide ((x0.toNat:Int)=95) then G a0 a1 (i64.wrap (a2+1)) else if decide ((x0.toNat:Int)=45) then G a0 a1 (i64.wrap (a2+1)) else if decide ((x0.toNat:Int)=46) then G a0 a1 (i64.wrap (a2+1)) else if !decide ((x0.toNat:Int)=58) then AI (Sum.inr false) else G a0 a1 (i64.wrap (a2+1)) else if decide (48<=(x0.toNat:Int)) then if decide ((x0.toNat:Int)<=57) then G a0 a1 (i64.wrap (a2+1)) else if decide ((x0.toNat:Int)=95) then G a0 a1 (i64.wrap (a2+1)) else if decide ((x0.toNat:Int)=45) then G a0 a1 (i64.wrap (a2+1)) else if decide ((x0.toNat:Int)=46) then G a0 a1 (i64.wrap (a2+1)) else if !decide ((x0.toNat:Int)=58) then AI (Sum.inr false) else G a0 a1 (i64.wrap (a2+1)) else if decide ((x0.toNat:Int)=95) then G a0 a1 (i64.wrap (a2+1)) else if decide ((x0.toNat:Int)=45) then G a0 a1 (i64.wrap (a2+1)) else if decide ((x0.toNat:Int)=46) then G a0 a1 (i64.wrap (a2+1)) else if !decide ((x0.toNat:Int)=58) then AI (Sum.inr false) else G a0 a1 (i64.wrap (a2+1)) else AI (Sum.inl ())
def kX:Nat->ζ->Int->Int->M (Unit⊕Bool)|0=>λ_ _ _=>AS|n+1=>kj (kX n) n
def tF (n:Nat)(a0:ζ):M Bool:=sh (kX n a0 (a0.size:Int) 0) (cz (λx0=>if decide (1<=(a0.size:Int)) then AI (decide ((a0.size:Int)<=64)) else AI false) (λx0=>AI x0))
abbrev acw (n:Nat):dv:=⟨46,[qG],[lS],λx=>tF n x⟩
abbrev Ju:L2:=⟨[0,1,0,1],[(0,qG),(6,aw),(7,aw)],[],[(2,lS)],[2,3,4]++List.range' 7 46,0,.ret,λn=>υ3 (kX n)⟩
theorem SE (n:Nat):lA TZp Tryz.f46 (Ju.e n) Ju.ws:=L2.ok Tryz.f46 Ju n C1 (hT:=λm _=>.m1 (K1 m))
theorem HO (n:Nat):aK TZp (acw n):=bw Tryz.f46 (C1 n) (ll:=[Ju.e n]) (hT:=⟨.nil,K1 n,.nil,(.cc (SE n) .nil),.nil⟩)
def mN (G:Sl->Addr->Sl->Int->Int->Sl->Int->Int->M Unit)(n:Nat)(a0:Sl)(a1:Addr)(a2:Sl)(a3 a4:Int)(a5:Sl)(a6 a7:Int):M Unit:=if decide (a7<a6) then sh (ar a5 a7 1) λx0=>sh (aq li x0) λ(x1:Int)=>sh (ar a0 x1 1) λx2=>sh (aq li x2) λ(x3:Int)=>sh (ar a0 x1 1) λx4=>sh (bh x4 [vi (i64.wrap (x3+1))]) λx5=>G a0 a1 a2 a3 a4 a5 a6 (i64.wrap (a7+1)) else AI ()
def iQ:Nat->Sl->Addr->Sl->Int->Int->Sl->Int->Int->M Unit|0=>λ_ _ _ _ _ _ _ _=>AS|n+1=>mN (iQ n) n
theorem zB (n:Nat):iQ (n+1)=mN (iQ n) n:=rfl
def mO (G:Sl->Sl->Int->Int->Sl->Int->Int->M Unit)(n:Nat)(a0 a1:Sl)(a2 a3:Int)(a4:Sl)(a5 a6:Int):M Unit:=if decide (a6<a5) then sh (ar a4 a6 1) λx0=>sh (aq li x0) λ(x1:Int)=>sh (ar a0 x1 1) λx2=>sh (aq li x2) λ(x3:Int)=>sh (ar a0 x1 1) λx4=>sh (bh x4 [vi (i64.wrap (x3+1))]) λx5=>G a0 a1 a2 a3 a4 a5 (i64.wrap (a6+1)) else AI ()
def iR:Nat->Sl->Sl->Int->Int->Sl->Int->Int->M Unit|0=>λ_ _ _ _ _ _ _=>AS|n+1=>mO (iR n) n
theorem zC (n:Nat):iR (n+1)=mO (iR n) n:=rfl
def mP (G:Sl->Sl->Int->Int->M Unit)(n:Nat)(a0 a1:Sl)(a2 a3:Int):M Unit:=if decide (a3<a2) then sh (ar a1 a3 5) λx0=>sh (aE [li,.str,.bool,.sl,.sl] x0) λ(x1:Int×ζ×Bool×Sl×Sl)=>sh (aF none aA [vi 0,.string (ofBytes []),.bool false,aO,aO]) λx2=>sh (bh (al x2) [vi x1.1,.string x1.2.1,.bool x1.2.2.1,aI x1.2.2.2.1,aI x1.2.2.2.2]) λx3=>sh (aq .sl ((al x2).plus 3)) λ(x4:Sl)=>sh (iQ n a0 (al x2) a1 a2 a3 x4 (x4.len:Int) 0) λx5=>sh (aq .sl ((al x2).plus 4)) λ(x6:Sl)=>sh (iR n a0 a1 a2 a3 x6 (x6.len:Int) 0) λx7=>G a0 a1 a2 (i64.wrap (a3+1)) else AI ()
def iS:Nat->Sl->Sl->Int->Int->M Unit|0=>λ_ _ _ _=>AS|n+1=>mP (iS n) n
theorem zD (n:Nat):iS (n+1)=mP (iS n) n:=rfl
def oQ (n:Nat)(a0:Sl×Int):M Sl:=sh (aF none aj [aI a0.1,vi a0.2]) λx0=>sh (aq .sl ((al x0).plus 0)) λ(x1:Sl)=>sh (qM none an [vi 0] (x1.len:Int) (x1.len:Int)) λx2=>sh (aq li ((al x0).plus 1)) λ(x3:Int)=>sh (ar x2 x3 1) λx4=>sh (aq li x4) λ(x5:Int)=>sh (ar x2 x3 1) λx6=>sh (bh x6 [vi (i64.wrap (x5+1))]) λx7=>sh (aq .sl ((al x0).plus 0)) λ(x8:Sl)=>sh (iS n x2 x8 (x8.len:Int) 0) λx9=>AI x2
abbrev acx (n:Nat):dv:=⟨26,[.agg [.sl,.int .i64]],[cw],λx=>oQ n x⟩
abbrev Jv:L1:=⟨[0,1,0,1,1,1],[(3,cw),(22,cw),(23,aw),(24,aw)],[],[5,7,9]++List.range' 24 33,0,λn=>υ4 (iS n)⟩
abbrev Jw:L1:=⟨[0,1,0,1,0,0,1,1,0,0,1,0,1,1,1],[(3,cw),(5,aB),(22,cw),(23,aw),(24,aw),(29,cw),(30,aw),(31,aw)],[],[7]++List.range' 31 11,2,λn=>υ8 (iQ n)⟩
abbrev Jx:L1:=⟨[0,1,1,1,0,0,1,1,0,0,1,0,1,1,1],[(3,cw),(22,cw),(23,aw),(24,aw),(43,cw),(44,aw),(45,aw)],[],[9]++List.range' 45 11,4,λn=>υ7 (iR n)⟩
theorem SF (n:Nat):lA TZp Tryz.f26 (Jw.e n) Jw.ws:=L1.ok Tryz.f26 Jw n C1 (hT:=λm _=>.m1 (K1 m))
theorem SG (n:Nat):lA TZp Tryz.f26 (Jx.e n) Jx.ws:=L1.ok Tryz.f26 Jx n C1 (hT:=λm _=>.m1 (K1 m))
theorem SH (n:Nat):lA TZp Tryz.f26 (Jv.e n) Jv.ws:=L1.ok Tryz.f26 Jv n C1 (lt:=λn=>[Jw.e n,Jx.e n]) (hT:=λm _=>⟨.nil,K1 m,.nil,(.cc (SF m) (.cc (SG m) .nil)),.nil⟩)
theorem EI (n:Nat):aK TZp (acx n):=bw Tryz.f26 (C1 n) (ll:=[Jv.e n]) (hT:=⟨.nil,K1 n,.nil,(.cc (SH n) .nil),.nil⟩)
structure aT where
 gp:Addr->Addr->Addr->Int->Int->Bool->Sl->Int->Int->Sl->Int->Int->M Bool
 jo:Addr->Addr->Addr->Sl->Int->Int->M (Unit⊕Bool)
 fN:Addr->Addr->Addr->Int->Int->M (Unit⊕Bool)
 iA:(Sl×Int)->Int->Int->M Bool
def o0 (G:aT)(n:Nat)(a0 a1 a2:Addr)(a3 a4:Int)(a5:Bool)(a6:Sl)(a7 a8:Int)(a9:Sl)(a10 a11:Int):M Bool:=if decide (a11<a10) then sh (ar a9 a11 1) λx0=>sh (aq li x0) λ(x1:Int)=>if a5 then G.gp a0 a1 a2 a3 a4 true a6 a7 a8 a9 a10 (i64.wrap (a11+1)) else sh (aE [.sl,li] a0) λ(x2:Sl×Int)=>sh (G.iA (x2.1,x2.2) a4 x1) λx3=>if x3 then sh (aE [.sl,li] a0) λ(x4:Sl×Int)=>sh (aq .sl (a1.plus 4)) λ(x5:Sl)=>sh (ar x5 a3 1) λx6=>sh (aq li x6) λ(x7:Int)=>sh (aq .sl (a2.plus 4)) λ(x8:Sl)=>sh (ar x8 a11 1) λx9=>sh (aq li x9) λ(fD:Int)=>sh (G.iA (x4.1,x4.2) x7 fD) λx11=>G.gp a0 a1 a2 a3 a4 x11 a6 a7 a8 a9 a10 (i64.wrap (a11+1)) else G.gp a0 a1 a2 a3 a4 false a6 a7 a8 a9 a10 (i64.wrap (a11+1)) else AI a5
def o5 (G:aT)(n:Nat)(a0 a1 a2:Addr)(a3:Sl)(a4 a5:Int):M (Unit⊕Bool):=if decide (a5<a4) then sh (ar a3 a5 1) λx0=>sh (aq li x0) λ(x1:Int)=>sh (aq .sl (a2.plus 3)) λ(x2:Sl)=>sh (G.gp a0 a1 a2 a5 x1 false a3 a4 a5 x2 (x2.len:Int) 0) λx3=>if !x3 then AI (Sum.inr false) else G.jo a0 a1 a2 a3 a4 (i64.wrap (a5+1)) else AI (Sum.inl ())
def o6 (G:aT)(n:Nat)(a0 a1 a2:Addr)(a3 a4:Int):M (Unit⊕Bool):=if decide (a4<a3) then sh (aq li (a1.plus 0)) λ(x0:Int)=>if decide (x0=10) then sh (aE [.sl,li] a0) λ(x1:Sl×Int)=>sh (aq .sl (a1.plus 3)) λ(x2:Sl)=>sh (ar x2 a4 1) λx3=>sh (aq li x3) λ(x4:Int)=>sh (aq .sl (a2.plus 3)) λ(x5:Sl)=>sh (ar x5 a4 1) λx6=>sh (aq li x6) λ(x7:Int)=>sh (G.iA (x1.1,x1.2) x4 x7) λx8=>if !x8 then AI (Sum.inr false) else sh (aE [.sl,li] a0) λ(x9:Sl×Int)=>sh (aq .sl (a1.plus 4)) λ(fD:Sl)=>sh (ar fD a4 1) λx11=>sh (aq li x11) λ(x12:Int)=>sh (aq .sl (a2.plus 4)) λ(x13:Sl)=>sh (ar x13 a4 1) λjj=>sh (aq li jj) λ(x15:Int)=>sh (G.iA (x9.1,x9.2) x12 x15) λrz=>if !rz then AI (Sum.inr false) else G.fN a0 a1 a2 a3 (i64.wrap (a4+1)) else sh (aE [.sl,li] a0) λ(x1:Sl×Int)=>sh (aq .sl (a1.plus 4)) λ(x2:Sl)=>sh (ar x2 a4 1) λx3=>sh (aq li x3) λ(x4:Int)=>sh (aq .sl (a2.plus 4)) λ(x5:Sl)=>sh (ar x5 a4 1) λx6=>sh (aq li x6) λ(x7:Int)=>sh (G.iA (x1.1,x1.2) x4 x7) λx8=>if !x8 then AI (Sum.inr false) else G.fN a0 a1 a2 a3 (i64.wrap (a4+1)) else AI (Sum.inl ())
def qI (G:aT)(n:Nat)(a0 a1 a2:Addr):M Bool:=sh (aq li (a1.plus 0)) λ(x0:Int)=>if decide (x0=10) then sh (aq .bool (a1.plus 2)) λ(x1:Bool)=>if !x1 then sh (aq .sl (a1.plus 3)) λ(x2:Sl)=>sh (G.jo a0 a1 a2 x2 (x2.len:Int) 0) (cz (λx3=>AI true) (λx3=>AI x3)) else sh (aq .sl (a1.plus 4)) λ(x2:Sl)=>sh (G.fN a0 a1 a2 (x2.len:Int) 0) (cz (λx3=>AI true) (λx3=>AI x3)) else sh (aq .sl (a1.plus 4)) λ(x1:Sl)=>sh (G.fN a0 a1 a2 (x1.len:Int) 0) (cz (λx2=>AI true) (λx2=>AI x2))
def rX (G:aT)(n:Nat)(a0:Sl×Int)(a1 a2:Int):M Bool:=sh (aF none aj [aI a0.1,vi a0.2]) λx0=>sh (dz 14) λx1=>sh (aq .sl ((al x0).plus 0)) λ(x2:Sl)=>sh (ar x2 a1 5) λx3=>sh (aE [li,.str,.bool,.sl,.sl] x3) λ(x4:Int×ζ×Bool×Sl×Sl)=>sh (aq .sl ((al x0).plus 0)) λ(x5:Sl)=>sh (ar x5 a2 5) λx6=>sh (aE [li,.str,.bool,.sl,.sl] x6) λ(x7:Int×ζ×Bool×Sl×Sl)=>sh (aF (some (x1+10)) aA [vi 0,.string (ofBytes []),.bool false,aO,aO]) λx8=>sh (aF (some (x1+11)) aA [vi 0,.string (ofBytes []),.bool false,aO,aO]) λx9=>sh (k8 [some ((al x0).plus 0),some x6] (bh (al x8) [vi x4.1,.string x4.2.1,.bool x4.2.2.1,aI x4.2.2.2.1,aI x4.2.2.2.2])) λfD=>sh (bh (al x9) [vi x7.1,.string x7.2.1,.bool x7.2.2.1,aI x7.2.2.2.1,aI x7.2.2.2.2]) λx11=>sh (aq li ((al x8).plus 0)) λ(x12:Int)=>sh (aq li ((al x9).plus 0)) λ(x13:Int)=>if !decide (x12=x13) then AI false else sh (aq .str ((al x8).plus 1)) λ(jj:ζ)=>sh (aq .str ((al x9).plus 1)) λ(x15:ζ)=>if !qE jj x15 then AI false else sh (aq .bool ((al x8).plus 2)) λ(rz:Bool)=>sh (aq .bool ((al x9).plus 2)) λ(x17:Bool)=>if !rz==x17 then AI false else sh (aq .sl ((al x8).plus 4)) λ(vB:Sl)=>sh (aq .sl ((al x9).plus 4)) λ(x19:Sl)=>if !decide ((vB.len:Int)=(x19.len:Int)) then AI false else qI G n (al x0) (al x8) (al x9)
def aT.at:Nat->aT|0=>⟨λ_ _ _ _ _ _ _ _ _ _ _ _=>AS,λ_ _ _ _ _ _=>AS,λ_ _ _ _ _=>AS,λ_ _ _=>AS⟩|n+1=>⟨o0 (aT.at n) n,o5 (aT.at n) n,o6 (aT.at n) n,rX (aT.at n) n⟩
def gp (n:Nat):=(aT.at n).gp
theorem Bv (n:Nat):gp (n+1)=o0 (aT.at n) n:=rfl
def jo (n:Nat):=(aT.at n).jo
theorem Bw (n:Nat):jo (n+1)=o5 (aT.at n) n:=rfl
def fN (n:Nat):=(aT.at n).fN
theorem Bx (n:Nat):fN (n+1)=o6 (aT.at n) n:=rfl
def iA (n:Nat):=(aT.at n).iA
theorem EJ (n:Nat):iA (n+1)=rX (aT.at n) n:=rfl
def HP (n:Nat):=qI (aT.at n) n
abbrev Ws (n:Nat):dv:=⟨47,[.agg [.sl,.int .i64],aw,aw],[lS],υ3 (iA n)⟩
abbrev Jy:L2:=⟨[0,1,0,0,1,0,1,1,1],[(3,aB),(7,aB),(8,aB),(62,cw),(63,aw),(64,aw)],[],[(6,lS)],[6]++List.range' 9 5++List.range' 64 38,0,.ret,λn=>υ6 (jo n)⟩
abbrev Jz:L1:=⟨[0,1,0,1,1,0,0,1,1,0,0,1,0,0,1,0,1,1,1],[(3,aB),(7,aB),(8,aB),(9,aw),(10,aw),(11,lS),(62,cw),(63,aw),(64,aw),(70,cw),(71,aw),(72,aw)],[(11,lS)],[11,12,13]++List.range' 72 27,2,λn=>υ12 (gp n)⟩
abbrev JA:L2:=⟨[0,1,0,1,1,1,1],[(3,aB),(7,aB),(8,aB),(104,aw),(105,aw)],[],[(6,lS)],[6,14]++List.range' 105 37,4,.ret,λn=>υ5 (fN n)⟩
abbrev C2 (n:Nat):List dv:=Ws n::C1 n
def JB (i:Nat):Option (List (Nat×η)):=Κ i 1 (Ω [0,2,5,7,1,3,4,6,8,9,10,11]++[(12,[6,9])]++Ω [13]) (Κ i 12 (Ω [0,1,3,4,2,5,6,8,10,13,15,7,9,11,12,14,16,17,18,19,20,21]) (Κ i 21 (Ω [0,1,2,3,5,7,10,12,4,6,8,9,11,13,14,15,16,17,18,20,22,25,27,19,21,23,24,26,28,29,30,31,32]) none))
abbrev aey (n:Nat):List (jm Bool):=[⟨[0,0,1,1,1],[.code [1,0,1,1,1],.code [1,1,1,1]],[(3,aB),(7,aB),(8,aB)],υ3 (HP n)⟩]
def p9 (n:Nat):Prop:=aK TZp (Ws n)
theorem Wt (n:Nat)(H:p9 n):eE TZp (C2 n):=.cons H (K1 n)
theorem SI (n:Nat)(H:∀m,m<n->p9 m):lA TZp Tryz.f47 (Jz.e n) Jz.ws:=L1.ok Tryz.f47 Jz n C2 (dr:=JB) (hT:=λm hm=>.m1 (Wt m (H m hm)))
theorem SJ (n:Nat)(H:∀m,m<n->p9 m):lA TZp Tryz.f47 (Jy.e n) Jy.ws:=L2.ok Tryz.f47 Jy n C2 (lt:=λn=>[Jz.e n]) (dr:=JB) (hT:=λm hm=>⟨.nil,Wt m (H m hm),.nil,(.cc (SI m (λk hk=>H k (ah4 hk hm))) .nil),.nil⟩)
theorem SK (n:Nat)(H:∀m,m<n->p9 m):lA TZp Tryz.f47 (JA.e n) JA.ws:=L2.ok Tryz.f47 JA n C2 (dr:=JB) (hT:=λm hm=>.m1 (Wt m (H m hm)))
theorem Bz (n:Nat)(H:∀m,m<n+1->p9 m):aK TZp (Ws (n+1)):=bw Tryz.f47 (C2 n) (ll:=[Jy.e n,JA.e n]) (dr:=JB) (js:=aey n) (hT:=⟨.nil,Wt n (H n (IT n)),.nil,(.cc (SJ n (λk hk=>H k (adf hk))) (.cc (SK n (λk hk=>H k (adf hk))) .nil)),(.cc .nil)⟩)
theorem Dr:∀n m,m<n->p9 m:=by
 intro n
 induction n with
 |zero=>intro m hm;exact absurd hm (ahR m)
 |succ n ih=>
  intro m hm;cases m with
  |zero=>exact gf (fn:=Tryz.f47) (by kernel_rfl) (by kernel_rfl) (by kernel_rfl) (λ_=>rfl)
  |succ k=>exact Bz k λm hm=>ih m (by omega)
theorem K2 (n:Nat):eE TZp (C2 n):=Wt n (Dr (n+1) n (IT n))
structure ao where
 cZ:Addr->Addr->Addr->Addr->Addr->Int->M Int
 da:Addr->Addr->Addr->Addr->Addr->Addr->Addr->ξ->Sl->Int->Int->M Unit
 db:Addr->Addr->Addr->Addr->Addr->Addr->Addr->Addr->ξ->Sl->Int->Int->M Unit
 cU:Int->Addr->Addr->Addr->Addr->Addr->Addr->Addr->Addr->Addr->M Unit
 cH:Int->Addr->Addr->Addr->Addr->Addr->M Unit
def cG (G:ao)(n:Nat)(x:ξ)(a0:Int):M Unit:=if qo kK x then sh (k7 [aB,aB,aB,aB,aB] x) λ(c:Addr×Addr×Addr×Addr×Addr)=>G.cH a0 c.1 c.2.1 c.2.2.1 c.2.2.2.1 c.2.2.2.2 else AS
abbrev jq:=cG
def iB (G:ao)(n:Nat)(x:ξ)(a0:Int):M Unit:=if qo mG x then sh (k7 [aB,aB,aB,aB,aB,aB,aB,aB,aB] x) λ(c:Addr×Addr×Addr×Addr×Addr×Addr×Addr×Addr×Addr)=>G.cU a0 c.1 c.2.1 c.2.2.1 c.2.2.2.1 c.2.2.2.2.1 c.2.2.2.2.2.1 c.2.2.2.2.2.2.1 c.2.2.2.2.2.2.2.1 c.2.2.2.2.2.2.2.2 else AS
def gT (G:ao)(n:Nat)(a0 a1 a2 a3 a4:Addr)(a5:Int):M Int:=sh (aq .sl a0) λ(x0:Sl)=>sh (aq .sl a0) λ(x1:Sl)=>sh (ar x0 (i64.wrap ((x1.len:Int)-1)) 1) λx2=>sh (aq li x2) λ(x3:Int)=>sh (aq .sl a0) λ(x4:Sl)=>sh (aq .sl a0) λ(x5:Sl)=>sh (gm x4 0 (i64.wrap ((x5.len:Int)-1)) an 1) λx6=>sh (bh a0 [aI x6]) λx7=>sh (aq .sl a1) λ(x8:Sl)=>sh (ar x8 x3 1) λx9=>sh (bh x9 [.bool false]) λfD=>sh (aq .sl a3) λ(x11:Sl)=>sh (aq .sl a2) λ(x12:Sl)=>sh (ar x11 x3 1) λx13=>sh (bh x13 [vi (x12.len:Int)]) λjj=>sh (aq li a4) λ(x15:Int)=>if decide (x3=x15) then AI (i64.wrap (a5+1)) else G.cZ a0 a1 a2 a3 a4 (i64.wrap (a5+1))
def gU (G:ao)(n:Nat)(a0 a1 a2 a3 a4 a5 a6:Addr)(a7:ξ)(a8:Sl)(a9 a10:Int):M Unit:=if decide (a10<a9) then sh (ar a8 a10 1) λx0=>sh (aq li x0) λ(x1:Int)=>sh (jq G n a7 x1) λx2=>G.da a0 a1 a2 a3 a4 a5 a6 a7 a8 a9 (i64.wrap (a10+1)) else AI ()
def gV (G:ao)(n:Nat)(a0 a1 a2 a3 a4 a5 a6 a7:Addr)(a8:ξ)(a9:Sl)(a10 a11:Int):M Unit:=if decide (a11<a10) then sh (ar a9 a11 1) λx0=>sh (aq li x0) λ(x1:Int)=>sh (cG G n a8 x1) λx2=>G.db a0 a1 a2 a3 a4 a5 a6 a7 a8 a9 a10 (i64.wrap (a11+1)) else AI ()
def jA (G:ao)(n:Nat)(a0:Int)(a1 a2 a3 a4 a5 a6 a7 a8 a9:Addr):M Unit:=sh (aF none an [vi a0]) λx0=>sh (aq li a1) λ(x1:Int)=>sh (bh a1 [vi (i64.wrap (x1+1))]) λx2=>sh (aq .sl a2) λ(x3:Sl)=>sh (aq li (al x0)) λ(x4:Int)=>sh (aq .sl a3) λ(x5:Sl)=>sh (aq li (al x0)) λ(x6:Int)=>sh (aq li a1) λ(x7:Int)=>sh (ar x3 x4 1) λx8=>sh (aq li a1) λ(x9:Int)=>sh (k8 [some a3,some (al x0),some a1] (bh x8 [vi x7])) λfD=>sh (ar x5 x6 1) λx11=>sh (bh x11 [vi x9]) λx12=>sh (aq .sl a4) λ(x13:Sl)=>sh (aq li (al x0)) λ(jj:Int)=>sh (app false x13 1 an 1 [vi jj]) λx15=>sh (bh a4 [aI x15]) λrz=>sh (aq .sl a5) λ(x17:Sl)=>sh (aq li (al x0)) λ(vB:Int)=>sh (ar x17 vB 1) λx19=>sh (bh x19 [.bool true]) λx20=>sh (aq .sl (a7.plus 0)) λ(x21:Sl)=>sh (aq li (al x0)) λ(x22:Int)=>sh (ar x21 x22 5) λx23=>sh (aq .sl (x23.plus 3)) λ(x24:Sl)=>sh (G.db a2 a3 a4 a5 a7 a8 a9 (al x0) (Value.func (Fn.func kK) #[] #[.pointer (some a2),.pointer (some a6),.pointer (some a3),.pointer (some (al x0)),.pointer (some a5)]) x24 (x24.len:Int) 0) λx25=>sh (aq .sl (a7.plus 0)) λ(x26:Sl)=>sh (aq li (al x0)) λ(x27:Int)=>sh (ar x26 x27 5) λx28=>sh (aq .sl (x28.plus 4)) λ(x29:Sl)=>sh (G.da a2 a3 a4 a5 a8 a9 (al x0) (Value.func (Fn.func kK) #[] #[.pointer (some a2),.pointer (some a6),.pointer (some a3),.pointer (some (al x0)),.pointer (some a5)]) x29 (x29.len:Int) 0) λx30=>sh (aq .sl a3) λ(x31:Sl)=>sh (aq li (al x0)) λ(x32:Int)=>sh (ar x31 x32 1) λx33=>sh (aq li x33) λ(x34:Int)=>sh (aq .sl a2) λ(x35:Sl)=>sh (aq li (al x0)) λ(x36:Int)=>sh (ar x35 x36 1) λx37=>sh (aq li x37) λ(x38:Int)=>if !decide (x34=x38) then AI () else sh (G.cZ a4 a5 a8 a9 (al x0) 0) λx39=>sh (aq .sl a8) λ(x40:Sl)=>sh (app false x40 1 an 1 [vi x39]) λx41=>sh (bh a8 [aI x41]) λx42=>AI ()
def iC (G:ao)(n:Nat)(a0:Int)(a1 a2 a3 a4 a5:Addr):M Unit:=sh (aq .sl a1) λ(x0:Sl)=>sh (ar x0 a0 1) λx1=>sh (aq li x1) λ(x2:Int)=>if decide (x2=0) then sh (aq .raw a2) λ(x3:ξ)=>sh (iB G n x3 a0) λx4=>sh (aq .sl a3) λ(x5:Sl)=>sh (aq li a4) λ(x6:Int)=>sh (aq .sl a3) λ(x7:Sl)=>sh (aq li a4) λ(x8:Int)=>sh (ar x7 x8 1) λx9=>sh (aq li x9) λ(fD:Int)=>sh (aq .sl a3) λ(x11:Sl)=>sh (ar x11 a0 1) λx12=>sh (aq li x12) λ(x13:Int)=>sh (ar x5 x6 1) λjj=>sh (bh jj [vi (if x13<fD then x13 else fD)]) λx15=>AI () else sh (aq .sl a5) λ(x3:Sl)=>sh (ar x3 a0 1) λx4=>sh (aq .bool x4) λ(x5:Bool)=>if x5 then sh (aq .sl a3) λ(x6:Sl)=>sh (aq li a4) λ(x7:Int)=>sh (aq .sl a3) λ(x8:Sl)=>sh (aq li a4) λ(x9:Int)=>sh (ar x8 x9 1) λfD=>sh (aq li fD) λ(x11:Int)=>sh (aq .sl a1) λ(x12:Sl)=>sh (ar x12 a0 1) λx13=>sh (aq li x13) λ(jj:Int)=>sh (ar x6 x7 1) λx15=>sh (bh x15 [vi (if jj<x11 then jj else x11)]) λrz=>AI () else AI ()
def ao.at:Nat->ao|0=>⟨λ_ _ _ _ _ _=>AS,λ_ _ _ _ _ _ _ _ _ _ _=>AS,λ_ _ _ _ _ _ _ _ _ _ _ _=>AS,λ_ _ _ _ _ _ _ _ _ _=>AS,λ_ _ _ _ _ _=>AS⟩|n+1=>⟨gT (ao.at n) n,gU (ao.at n) n,gV (ao.at n) n,jA (ao.at n) n,iC (ao.at n) n⟩
def cZ (n:Nat):=(ao.at n).cZ
theorem vN (n:Nat):cZ (n+1)=gT (ao.at n) n:=rfl
def da (n:Nat):=(ao.at n).da
theorem vO (n:Nat):da (n+1)=gU (ao.at n) n:=rfl
def db (n:Nat):=(ao.at n).db
theorem vP (n:Nat):db (n+1)=gV (ao.at n) n:=rfl
def cU (n:Nat):=(ao.at n).cU
theorem xu (n:Nat):cU (n+1)=jA (ao.at n) n:=rfl
def cH (n:Nat):=(ao.at n).cH
theorem wx (n:Nat):cH (n+1)=iC (ao.at n) n:=rfl
def yg (n:Nat):=cG (ao.at n) n
def yh (n:Nat):=jq (ao.at n) n
def wY (n:Nat):=iB (ao.at n) n
abbrev QV (n:Nat):dv:=⟨69,[aw,aB,aB,aB,aB,aB,aB,aB,aB,aB],[],υ10 (cU n)⟩
abbrev JC:L1:=⟨[0,1,0,1,1,1,1,1,1],[(2,aB),(3,aB),(4,aB),(5,aB),(7,aB),(8,aB),(9,aB),(10,aB),(11,th),(41,cw),(42,aw),(43,aw)],[],[13]++List.range' 43 8,0,λn=>υ12 (db n)⟩
abbrev JD:L1:=⟨[0,1,0,1,1,1,1,1,1,1],[(2,aB),(3,aB),(4,aB),(5,aB),(8,aB),(9,aB),(10,aB),(11,th),(56,cw),(57,aw),(58,aw)],[],[15]++List.range' 58 8,2,λn=>υ11 (da n)⟩
abbrev JE:L1:=⟨[0,0,1,1,1,1,1,1,1,1,1,1],[(4,aB),(5,aB),(8,aB),(9,aB),(10,aB),(16,aw)],[(16,aw)],[16,17]++List.range' 75 24,4,λn=>υ6 (cZ n)⟩
abbrev Wu (n:Nat):dv:=⟨70,[aw,aB,aB,aB,aB,aB],[],υ6 (cH n)⟩
abbrev C3 (n:Nat):List dv:=QV n::Wu n::C2 n
abbrev GF (n:Nat):List oZ:=[⟨47,[aw],[],λx a=>yg n x a⟩, ⟨62,[aw],[],λx a=>yh n x a⟩]
def JF (i:Nat):Option (List (Nat×η)):=Κ i 2 (Ω [0,1,2,3,4,6,5]++[(7,[2,3,5])]++Ω [8,9]) (Κ i 16 (Ω [0,1,2,3,4,5,6,7,8]) none)
abbrev Wv (n:Nat):List oZ:=[⟨12,[aw],[],λx a=>wY n x a⟩]
def aez (i:Nat):Option (List (Nat×η)):=Κ i 2 (Ω [7,0,1,2,3,4,5,6,8,9,10,11,12]) (Κ i 4 (Ω [7,0,1,2,3,4,5,6,8,9,10,11,12]) none)
def dA (n:Nat):Prop:=aK TZp (QV n)/\aK TZp (Wu n)
theorem SN (n:Nat)(H:dA n):eE TZp (C3 n):=.cons H.1 (.cons H.2 (K2 n))
theorem JG (n:Nat)(H:dA n):pK TZp (GF n):=.cons (cS (l:=[⟨70,[aB,aB,aB,aB,aB],λa c=>cH n a c.1 c.2.1 c.2.2.1 c.2.2.2.1 c.2.2.2.2⟩]) (.cons (λa c=>aD (by kernel_rfl) ((H).2 (a,c.1,c.2.1,c.2.2.1,c.2.2.2.1,c.2.2.2.2))) .nil) (λx a=>by kernel_rfl)) (.cons (cS (l:=[⟨70,[aB,aB,aB,aB,aB],λa c=>cH n a c.1 c.2.1 c.2.2.1 c.2.2.2.1 c.2.2.2.2⟩]) (.cons (λa c=>aD (by kernel_rfl) ((H).2 (a,c.1,c.2.1,c.2.2.1,c.2.2.2.1,c.2.2.2.2))) .nil) (λx a=>by kernel_rfl)) .nil)
theorem SQ (n:Nat)(H:∀m,m<n->dA m):lA TZp Tryz.f69 (JE.e n) JE.ws:=L1.ok Tryz.f69 JE n C3 (dt:=GF) (dr:=JF) (hT:=λm hm=>⟨.nil,SN m (H m hm),(JG m (H m hm)),.nil,.nil⟩)
theorem SR (n:Nat)(H:∀m,m<n->dA m):lA TZp Tryz.f69 (JD.e n) JD.ws:=L1.ok Tryz.f69 JD n C3 (dt:=GF) (dr:=JF) (hT:=λm hm=>⟨.nil,SN m (H m hm),(JG m (H m hm)),.nil,.nil⟩)
theorem SS (n:Nat)(H:∀m,m<n->dA m):lA TZp Tryz.f69 (JC.e n) JC.ws:=L1.ok Tryz.f69 JC n C3 (dt:=GF) (dr:=JF) (hT:=λm hm=>⟨.nil,SN m (H m hm),(JG m (H m hm)),.nil,.nil⟩)
theorem vQ (n:Nat)(H:∀m,m<n+1->dA m):aK TZp (QV (n+1)):=bw Tryz.f69 (C3 n) (dl:=GF n) (ll:=[JC.e n,JD.e n,JE.e n]) (dr:=JF) (hT:=⟨.nil,SN n (H n (IT n)),(JG n (H n (IT n))),(.cc (SS n (λk hk=>H k (adf hk))) (.cc (SR n (λk hk=>H k (adf hk))) (.cc (SQ n (λk hk=>H k (adf hk))) .nil))),.nil⟩)
theorem aeA (n:Nat)(H:dA n):pK TZp (Wv n):=.cons (cS (l:=[⟨69,[aB,aB,aB,aB,aB,aB,aB,aB,aB],λa c=>cU n a c.1 c.2.1 c.2.2.1 c.2.2.2.1 c.2.2.2.2.1 c.2.2.2.2.2.1 c.2.2.2.2.2.2.1 c.2.2.2.2.2.2.2.1 c.2.2.2.2.2.2.2.2⟩]) (.cons (λa c=>aD (by kernel_rfl) ((H).1 (a,c.1,c.2.1,c.2.2.1,c.2.2.2.1,c.2.2.2.2.1,c.2.2.2.2.2.1,c.2.2.2.2.2.2.1,c.2.2.2.2.2.2.2.1,c.2.2.2.2.2.2.2.2))) .nil) (λx a=>by kernel_rfl)) .nil
theorem uI (n:Nat)(H:∀m,m<n+1->dA m):aK TZp (Wu (n+1)):=bw Tryz.f70 (C3 n) (dl:=Wv n) (dr:=aez) (hT:=⟨.nil,SN n (H n (IT n)),(aeA n (H n (IT n))),.nil,.nil⟩)
theorem qt:∀n m,m<n->dA m:=by
 intro n
 induction n with
 |zero=>intro m hm;exact absurd hm (ahR m)
 |succ n ih=>
  intro m hm;cases m with
  |zero=>exact⟨gf (fn:=Tryz.f69) (by kernel_rfl) (by kernel_rfl) (by kernel_rfl) (λ_=>rfl),gf (fn:=Tryz.f70) (by kernel_rfl) (by kernel_rfl) (by kernel_rfl) (λ_=>rfl)⟩
  |succ k=>exact⟨vQ k λm hm=>ih m (by omega),uI k λm hm=>ih m (by omega)⟩
theorem yU (n:Nat):aK TZp (QV n):=(qt (n+1) n (IT n)).1
theorem K3 (n:Nat):eE TZp (C3 n):=SN n (qt (n+1) n (IT n))
structure bO where
 lE:Addr->Addr->Int->Sl->Sl->Sl->Int->Int->M Sl
 lF:Addr->Addr->Int->Addr->Sl->Sl->Sl->Int->Int->M Sl
 kY:Int->Addr->Addr->Addr->M Int
def mQ (G:bO)(n:Nat)(x:ξ)(a0:Int):M Int:=if qo uf x then sh (k7 [aB,aB,aB] x) λ(c:Addr×Addr×Addr)=>G.kY a0 c.1 c.2.1 c.2.2 else AS
abbrev wI:=mQ
def tG (G:bO)(n:Nat)(a0 a1:Addr)(a2:Int)(a3 a4 a5:Sl)(a6 a7:Int):M Sl:=if decide (a7<a6) then sh (ar a5 a7 1) λx0=>sh (aq li x0) λ(x1:Int)=>sh (aq .raw a1) λ(x2:ξ)=>sh (wI G n x2 x1) λx3=>sh (app false a4 1 an 1 [vi x3]) λx4=>G.lE a0 a1 a2 a3 x4 a5 a6 (i64.wrap (a7+1)) else AI a4
def tH (G:bO)(n:Nat)(a0 a1:Addr)(a2:Int)(a3:Addr)(a4 a5 a6:Sl)(a7 a8:Int):M Sl:=if decide (a8<a7) then sh (ar a6 a8 1) λx0=>sh (aq li x0) λ(x1:Int)=>sh (aq .raw a1) λ(x2:ξ)=>sh (mQ G n x2 x1) λx3=>sh (app false a4 1 an 1 [vi x3]) λx4=>G.lF a0 a1 a2 a3 x4 a5 a6 a7 (i64.wrap (a8+1)) else AI a4
def wZ (G:bO)(n:Nat)(a0:Int)(a1 a2 a3:Addr):M Int:=sh (aq .sl (a1.plus 0)) λ(x0:Sl)=>sh (aq .sl (a2.plus 0)) λ(x1:Sl)=>sh (ar x1 a0 5) λx2=>sh (aE [li,.str,.bool,.sl,.sl] x2) λ(x3:Int×ζ×Bool×Sl×Sl)=>sh (aF none aA [vi 0,.string (ofBytes []),.bool false,aO,aO]) λx4=>sh (bh (al x4) [vi x3.1,.string x3.2.1,.bool x3.2.2.1,aI x3.2.2.2.1,aI x3.2.2.2.2]) λx5=>sh (aq .sl (a1.plus 0)) λ(x6:Sl)=>sh (aq li ((al x4).plus 0)) λ(x7:Int)=>sh (aq .str ((al x4).plus 1)) λ(x8:ζ)=>sh (aq .bool ((al x4).plus 2)) λ(x9:Bool)=>sh (app false x6 5 aA 1 [vi x7,.string x8,.bool x9,aO,aO]) λfD=>sh (bh (a1.plus 0) [aI fD]) λx11=>sh (aq .sl ((al x4).plus 3)) λ(x12:Sl)=>sh (G.lF a1 a3 (x0.len:Int) (al x4) qQ qQ x12 (x12.len:Int) 0) λx13=>sh (aq .sl ((al x4).plus 4)) λ(jj:Sl)=>sh (G.lE a1 a3 (x0.len:Int) x13 qQ jj (jj.len:Int) 0) λx15=>sh (aq .sl (a1.plus 0)) λ(rz:Sl)=>sh (ar rz (x0.len:Int) 5) λx17=>sh (aq .sl (a1.plus 0)) λ(vB:Sl)=>sh (k8 [some (a1.plus 0)] (bh (x17.plus 3) [aI x13])) λx19=>sh (ar vB (x0.len:Int) 5) λx20=>sh (bh (x20.plus 4) [aI x15]) λx21=>AI (x0.len:Int)
def bO.at:Nat->bO|0=>⟨λ_ _ _ _ _ _ _ _=>AS,λ_ _ _ _ _ _ _ _ _=>AS,λ_ _ _ _=>AS⟩|n+1=>⟨tG (bO.at n) n,tH (bO.at n) n,wZ (bO.at n) n⟩
def lE (n:Nat):=(bO.at n).lE
theorem AD (n:Nat):lE (n+1)=tG (bO.at n) n:=rfl
def lF (n:Nat):=(bO.at n).lF
theorem AE (n:Nat):lF (n+1)=tH (bO.at n) n:=rfl
def kY (n:Nat):=(bO.at n).kY
theorem Ds (n:Nat):kY (n+1)=wZ (bO.at n) n:=rfl
def EK (n:Nat):=mQ (bO.at n) n
def EL (n:Nat):=wI (bO.at n) n
abbrev QW (n:Nat):dv:=⟨71,[aw,aB,aB,aB],[aw],υ4 (kY n)⟩
abbrev JH:L1:=⟨[0,1,0,1,1,1,1,1],[(1,aB),(3,aB),(6,aw),(7,aB),(8,cw),(9,cw),(35,cw),(36,aw),(37,aw)],[(8,cw)],[8,11]++List.range' 37 11,0,λn=>υ9 (lF n)⟩
abbrev JI:L1:=⟨[0,1,0,1,1,1,1,1,1],[(1,aB),(3,aB),(6,aw),(8,cw),(9,cw),(49,cw),(50,aw),(51,aw)],[(9,cw)],[9,13]++List.range' 51 11,2,λn=>υ8 (lE n)⟩
abbrev C4 (n:Nat):List dv:=QW n::C3 n
abbrev JJ (n:Nat):List oZ:=[⟨42,[aw],[aw],λx a=>EK n x a⟩, ⟨56,[aw],[aw],λx a=>EL n x a⟩]
def Pk (i:Nat):Option (List (Nat×η)):=Κ i 15 (Ω [0,2,3,5,6,7,1,8,9,4]++[(10,[4])]++Ω [11,12,13]) none
def ph (n:Nat):Prop:=aK TZp (QW n)
theorem aaK (n:Nat)(H:ph n):eE TZp (C4 n):=.cons H (K3 n)
theorem Pl (n:Nat)(H:ph n):pK TZp (JJ n):=.cons (cS (l:=[⟨71,[aB,aB,aB],λa c=>kY n a c.1 c.2.1 c.2.2⟩]) (.cons (λa c=>aD (by kernel_rfl) ((H) (a,c.1,c.2.1,c.2.2))) .nil) (λx a=>by kernel_rfl)) (.cons (cS (l:=[⟨71,[aB,aB,aB],λa c=>kY n a c.1 c.2.1 c.2.2⟩]) (.cons (λa c=>aD (by kernel_rfl) ((H) (a,c.1,c.2.1,c.2.2))) .nil) (λx a=>by kernel_rfl)) .nil)
theorem SU (n:Nat)(H:∀m,m<n->ph m):lA TZp Tryz.f71 (JI.e n) JI.ws:=L1.ok Tryz.f71 JI n C4 (dt:=JJ) (dr:=Pk) (hT:=λm hm=>⟨.nil,aaK m (H m hm),(Pl m (H m hm)),.nil,.nil⟩)
theorem SV (n:Nat)(H:∀m,m<n->ph m):lA TZp Tryz.f71 (JH.e n) JH.ws:=L1.ok Tryz.f71 JH n C4 (dt:=JJ) (dr:=Pk) (hT:=λm hm=>⟨.nil,aaK m (H m hm),(Pl m (H m hm)),.nil,.nil⟩)
theorem AF (n:Nat)(H:∀m,m<n+1->ph m):aK TZp (QW (n+1)):=bw Tryz.f71 (C4 n) (dl:=JJ n) (ll:=[JH.e n,JI.e n]) (dr:=Pk) (hT:=⟨.nil,aaK n (H n (IT n)),(Pl n (H n (IT n))),(.cc (SV n (λk hk=>H k (adf hk))) (.cc (SU n (λk hk=>H k (adf hk))) .nil)),.nil⟩)
theorem wJ:∀n m,m<n->ph m:=by
 intro n
 induction n with
 |zero=>intro m hm;exact absurd hm (ahR m)
 |succ n ih=>
  intro m hm;cases m with
  |zero=>exact gf (fn:=Tryz.f71) (by kernel_rfl) (by kernel_rfl) (by kernel_rfl) (λ_=>rfl)
  |succ k=>exact AF k λm hm=>ih m (by omega)
theorem GG (n:Nat):aK TZp (QW n):=(wJ (n+1) n (IT n))
theorem K4 (n:Nat):eE TZp (C4 n):=aaK n (wJ (n+1) n (IT n))
def ux (n:Nat)(a0:Sl×Int):M (θ):=sh (aF none aj [aI a0.1,vi a0.2]) λx0=>sh (dz 8) λx1=>sh (aE [.sl,li] (al x0)) λ(x2:Sl×Int)=>sh (aq .sl ((al x0).plus 0)) λ(x3:Sl)=>sh (qM (some (x1+4)) aR [aO] (x3.len:Int) (x3.len:Int)) λx4=>sh (aF (some (x1+6)) dJ [aI x2.1,vi x2.2,aI x4]) λx5=>AI (some (al x5))
abbrev Ww (n:Nat):dv:=⟨40,[.agg [.sl,.int .i64]],[BZ],λx=>ux n x⟩
def aeB (i:Nat):Option (List (Nat×η)):=Κ i 1 (Ω [1,0,2,3,4,5,6,7]) none
theorem Nn (n:Nat):aK TZp (Ww n):=bw Tryz.f40 (C4 n) (dr:=aeB) (hT:=.m1 (K4 n))
def mR (n:Nat)(a0:θ):M Int:=sh (nn a0) λx0=>sh (nn a0) λx1=>sh (aq (.int IntKind.u64) x0) λ(x2:Int)=>sh (aq (.int IntKind.u64) x1) λ(x3:Int)=>sh (px (decide (0<=13))) λx4=>sh (nn a0) λx5=>sh (bh x5 [.int IntKind.u64 (IntKind.u64.wrap (↑(BitVec.ofInt 64 x2^^^BitVec.ofInt 64 (IntKind.u64.wrap (x3*2^13))).toNat:Int))]) λx6=>sh (nn a0) λx7=>sh (nn a0) λx8=>sh (aq (.int IntKind.u64) x7) λ(x9:Int)=>sh (aq (.int IntKind.u64) x8) λ(fD:Int)=>sh (px (decide (0<=7))) λx11=>sh (nn a0) λx12=>sh (bh x12 [.int IntKind.u64 (IntKind.u64.wrap (↑(BitVec.ofInt 64 x9^^^BitVec.ofInt 64 (Int.fdiv fD (2^7))).toNat:Int))]) λx13=>sh (nn a0) λjj=>sh (nn a0) λx15=>sh (aq (.int IntKind.u64) jj) λ(rz:Int)=>sh (aq (.int IntKind.u64) x15) λ(x17:Int)=>sh (px (decide (0<=17))) λvB=>sh (nn a0) λx19=>sh (bh x19 [.int IntKind.u64 (IntKind.u64.wrap (↑(BitVec.ofInt 64 rz^^^BitVec.ofInt 64 (IntKind.u64.wrap (x17*2^17))).toNat:Int))]) λx20=>sh (nn a0) λx21=>sh (aq (.int IntKind.u64) x21) λ(x22:Int)=>AI x22
abbrev Wx (n:Nat):dv:=⟨101,[BZ],[.one (.int .u64)],λx=>mR n x⟩
def aaL (i:Nat):Option (List (Nat×η)):=Κ i 1 (Ω [0,1,3,4,2,5,6,7,8,9]) (Κ i 2 (Ω [0,1,3,4,2,5,6,7,8,9]) (Κ i 3 (Ω [0,1,3,4,2,5,6,7,8,9]) none))
theorem xw (n:Nat):aK TZp (Wx n):=bw Tryz.f101 (C4 n) (dr:=aaL) (hT:=.m1 (K4 n))
def cI (G:Sl->Int->Int->M Unit)(n:Nat)(a0:Sl)(a1 a2:Int):M Unit:=if decide (a1<a2) then sh (ar a0 a2 1) λx0=>sh (ar a0 a1 1) λx1=>sh (aq li x0) λ(x2:Int)=>sh (aq li x1) λ(x3:Int)=>sh (ar a0 a1 1) λx4=>sh (bh x4 [vi x2]) λx5=>sh (ar a0 a2 1) λx6=>sh (bh x6 [vi x3]) λx7=>G a0 (i64.wrap (a1+1)) (i64.wrap (a2-1)) else AI ()
def bX:Nat->Sl->Int->Int->M Unit|0=>λ_ _ _=>AS|n+1=>cI (bX n) n
def fQ (n:Nat)(a0:Sl)(a1 a2:Int)(a3:ξ):M Unit:=sh (bX n a0 a1 (i64.wrap (a2-1))) λx0=>AI ()
abbrev acz (n:Nat):dv:=⟨80,[cw,aw,aw,th],[],υ4 (fQ n)⟩
abbrev JK:L1:=⟨[0,1,1],[(0,cw),(8,aw),(9,aw)],[],[8,9]++List.range' 13 21,0,λn=>υ3 (bX n)⟩
def Wy (i:Nat):Option (List (Nat×η)):=Κ i 3 (Ω [0,1,2,3,4,5,6,8,9,10,7,11,12,13,14,15]) none
theorem SW (n:Nat):lA TZp Tryz.f80 (JK.e n) JK.ws:=L1.ok Tryz.f80 JK n C4 (dr:=Wy) (hT:=λm _=>.m1 (K4 m))
theorem rE (n:Nat):aK TZp (acz n):=bw Tryz.f80 (C4 n) (ll:=[JK.e n]) (dr:=Wy) (hT:=⟨.nil,K4 n,.nil,(.cc (SW n) .nil),.nil⟩)
def rY (G:Sl->Sl->Int->M (Unit⊕Int))(n:Nat)(a0 a1:Sl)(a2:Int):M (Unit⊕Int):=if decide (0<=a2) then sh (ar a0 a2 1) λx0=>sh (ar a1 a2 1) λx1=>sh (aq (.int IntKind.u8) x0) λ(x2:Int)=>sh (aq (.int IntKind.u8) x1) λ(x3:Int)=>if !decide (x2=x3) then sh (ar a0 a2 1) λx4=>sh (ar a1 a2 1) λx5=>sh (aq (.int IntKind.u8) x4) λ(x6:Int)=>sh (aq (.int IntKind.u8) x5) λ(x7:Int)=>if decide (x6<x7) then AI (Sum.inr (-1)) else AI (Sum.inr 1) else G a0 a1 (i64.wrap (a2-1)) else AI (Sum.inl ())
def mc:Nat->Sl->Sl->Int->M (Unit⊕Int)|0=>λ_ _ _=>AS|n+1=>rY (mc n) n
theorem zE (n:Nat):mc (n+1)=rY (mc n) n:=rfl
def rZ (n:Nat)(a0 a1:Sl):M Int:=if !decide ((a0.len:Int)=(a1.len:Int)) then if decide ((a0.len:Int)<(a1.len:Int)) then AI (-1) else AI 1 else sh (mc n a0 a1 (i64.wrap ((a0.len:Int)-1))) (cz (λx0=>AI 0) (λx0=>AI x0))
abbrev Wz (n:Nat):dv:=⟨161,[cw,cw],[aw],υ2 (rZ n)⟩
abbrev Fv:L2:=⟨[0,1,0,1,1],[(0,cw),(1,cw),(5,aw)],[],[(4,aw)],[4,5]++List.range' 19 22,0,.ret,λn=>υ3 (mc n)⟩
def QX (i:Nat):Option (List (Nat×η)):=Κ i 8 (Ω [0,1,2,4,5,6,3,7,8]) (Κ i 9 (Ω [0,1,2,4,5,6,3,7,8]) none)
theorem Pn (n:Nat):lA TZp Tryz.f161 (Fv.e n) Fv.ws:=L2.ok Tryz.f161 Fv n C4 (dr:=QX) (hT:=λm _=>.m1 (K4 m))
theorem EM (n:Nat):aK TZp (Wz n):=bw Tryz.f161 (C4 n) (ll:=[Fv.e n]) (dr:=QX) (hT:=⟨.nil,K4 n,.nil,(.cc (Pn n) .nil),.nil⟩)
def ug (n:Nat)(a0:Int):M Int:=if decide (a0<0) then AI (-1) else if decide (0<a0) then AI 1 else AI 0
abbrev WA (n:Nat):dv:=⟨187,[aw],[aw],λx=>ug n x⟩
theorem Dt (n:Nat):aK TZp (WA n):=bw Tryz.f187 (C4 n) (hT:=.m1 (K4 n))
def fH (n:Nat)(a0:Bool×Sl×Int)(a1:Int):M Int:=sh (aF none bW [.bool a0.1,aI a0.2.1,vi a0.2.2]) λx0=>sh (aq .sl ((al x0).plus 1)) λ(x1:Sl)=>if decide (a1<(x1.len:Int)) then sh (aq .sl ((al x0).plus 1)) λ(x2:Sl)=>sh (ar x2 a1 1) λx3=>sh (aq (.int IntKind.u8) x3) λ(x4:Int)=>AI x4 else AI 0
abbrev WB (n:Nat):dv:=⟨200,[.agg [.bool,.sl,.int .i64],aw],[.one (.int .u8)],υ2 (fH n)⟩
theorem nS (n:Nat):aK TZp (WB n):=bw Tryz.f200 (C4 n) (hT:=.m1 (K4 n))
def r9 (G:Sl->Sl->Int->Int->Sl->Int->Int->M Unit)(n:Nat)(a0 a1:Sl)(a2 a3:Int)(a4:Sl)(a5 a6:Int):M Unit:=if decide (a6<a5) then sh (ar a4 a6 1) λx0=>sh (aq li x0) λ(x1:Int)=>sh (ar a0 x1 1) λx2=>sh (aq li x2) λ(x3:Int)=>sh (ar a0 x1 1) λx4=>sh (bh x4 [vi (i64.wrap (x3+1))]) λx5=>G a0 a1 a2 a3 a4 a5 (i64.wrap (a6+1)) else AI ()
def mf:Nat->Sl->Sl->Int->Int->Sl->Int->Int->M Unit|0=>λ_ _ _ _ _ _ _=>AS|n+1=>r9 (mf n) n
theorem zF (n:Nat):mf (n+1)=r9 (mf n) n:=rfl
def sd (G:Sl->Sl->Int->Int->M Unit)(n:Nat)(a0 a1:Sl)(a2 a3:Int):M Unit:=if decide (a3<a2) then sh (ar a1 a3 5) λx0=>sh (aE [li,.str,.bool,.sl,.sl] x0) λ(x1:Int×ζ×Bool×Sl×Sl)=>sh (aF none aA [vi 0,.string (ofBytes []),.bool false,aO,aO]) λx2=>sh (bh (al x2) [vi x1.1,.string x1.2.1,.bool x1.2.2.1,aI x1.2.2.2.1,aI x1.2.2.2.2]) λx3=>sh (aq .sl ((al x2).plus 4)) λ(x4:Sl)=>sh (mf n a0 a1 a2 a3 x4 (x4.len:Int) 0) λx5=>G a0 a1 a2 (i64.wrap (a3+1)) else AI ()
def mh:Nat->Sl->Sl->Int->Int->M Unit|0=>λ_ _ _ _=>AS|n+1=>sd (mh n) n
theorem zG (n:Nat):mh (n+1)=sd (mh n) n:=rfl
def u9 (n:Nat)(a0:Sl×Int):M Sl:=sh (aF none aj [aI a0.1,vi a0.2]) λx0=>sh (aq .sl ((al x0).plus 0)) λ(x1:Sl)=>sh (qM none an [vi 0] (x1.len:Int) (x1.len:Int)) λx2=>sh (aq li ((al x0).plus 1)) λ(x3:Int)=>sh (ar x2 x3 1) λx4=>sh (aq li x4) λ(x5:Int)=>sh (ar x2 x3 1) λx6=>sh (bh x6 [vi (i64.wrap (x5+1))]) λx7=>sh (aq .sl ((al x0).plus 0)) λ(x8:Sl)=>sh (mh n x2 x8 (x8.len:Int) 0) λx9=>AI x2
abbrev acA (n:Nat):dv:=⟨54,[.agg [.sl,.int .i64]],[cw],λx=>u9 n x⟩
abbrev JL:L1:=⟨[0,1,0,1,1,1],[(3,cw),(20,cw),(21,aw),(22,aw)],[],[5,7]++List.range' 22 19,0,λn=>υ4 (mh n)⟩
abbrev JM:L1:=⟨[0,1,1,0,0,1,1,0,0,1,0,1,1,1],[(3,cw),(20,cw),(21,aw),(22,aw),(27,cw),(28,aw),(29,aw)],[],[7]++List.range' 29 11,2,λn=>υ7 (mf n)⟩
theorem SX (n:Nat):lA TZp Tryz.f54 (JM.e n) JM.ws:=L1.ok Tryz.f54 JM n C4 (hT:=λm _=>.m1 (K4 m))
theorem SY (n:Nat):lA TZp Tryz.f54 (JL.e n) JL.ws:=L1.ok Tryz.f54 JL n C4 (lt:=λn=>[JM.e n]) (hT:=λm _=>⟨.nil,K4 m,.nil,(.cc (SX m) .nil),.nil⟩)
theorem EN (n:Nat):aK TZp (acA n):=bw Tryz.f54 (C4 n) (ll:=[JL.e n]) (hT:=⟨.nil,K4 n,.nil,(.cc (SY n) .nil),.nil⟩)
def nK (n:Nat)(a0:θ):M Int:=sh (nn a0) λx0=>sh (aq .sl (x0.plus 1)) λ(x1:Sl)=>AI (x1.len:Int)
abbrev acB (n:Nat):dv:=⟨16,[BZ],[aw],λx=>nK n x⟩
theorem yi (n:Nat):aK TZp (acB n):=bw Tryz.f16 (C4 n) (hT:=.m1 (K4 n))
def kM (n:Nat)(a0:θ):M ζ:=sh (nn a0) λx0=>sh (nn a0) λx1=>sh (aq .sl (x0.plus 1)) λ(x2:Sl)=>sh (D7 x2.a x2.len) λx3=>sh (aq .sl (x1.plus 1)) λ(x4:Sl)=>sh (ZN jT x3 (x4.len:Int)) λx5=>AI x5
abbrev acC (n:Nat):dv:=⟨17,[BZ],[qG],λx=>kM n x⟩
def aeC (i:Nat):Option (List (Nat×η)):=Κ i 1 (Ω [0,1,2,5,6,7,3,4,8,9,10,11]) none
theorem wy (n:Nat):aK TZp (acC n):=bw Tryz.f17 (C4 n) (dr:=aeC) (hT:=.m1 (K4 n))
def qR (G:Int->Sl->Int->Int->M Unit)(n:Nat)(a0:Int)(a1:Sl)(a2 a3:Int):M Unit:=if decide (a3<a2) then sh (ar a1 a3 1) λx0=>sh (aq li x0) λ(x1:Int)=>sh (ar a1 a3 1) λx2=>sh (bh x2 [vi (i64.wrap (x1+a0))]) λx3=>G a0 a1 a2 (i64.wrap (a3+1)) else AI ()
def nT:Nat->Int->Sl->Int->Int->M Unit|0=>λ_ _ _ _=>AS|n+1=>qR (nT n) n
def qu (n:Nat)(a0:Sl)(a1:Int):M Sl:=sh (qM none an [vi 0] (a0.len:Int) (a0.len:Int)) λx0=>sh (rh x0 a0 1) λx1=>sh (nT n a1 x0 (x0.len:Int) 0) λx2=>AI x0
abbrev acD (n:Nat):dv:=⟨43,[cw,aw],[cw],υ2 (qu n)⟩
abbrev JO:L1:=⟨[0,1,0,1,1,1],[(1,aw),(5,cw),(14,aw),(15,aw)],[],[6]++List.range' 15 11,0,λn=>υ4 (nT n)⟩
theorem SZ (n:Nat):lA TZp Tryz.f43 (JO.e n) JO.ws:=L1.ok Tryz.f43 JO n C4 (hT:=λm _=>.m1 (K4 m))
theorem Du (n:Nat):aK TZp (acD n):=bw Tryz.f43 (C4 n) (ll:=[JO.e n]) (hT:=⟨.nil,K4 n,.nil,(.cc (SZ n) .nil),.nil⟩)
def nU (n:Nat)(x:ξ)(a0:Int):M Unit:=if qo pH x then sh (k7 [aB,aB,aB] x) λ(c:Addr×Addr×Addr)=>ef n a0 c.1 c.2.1 c.2.2 else AS
def nz (n:Nat)(a0:Sl×Int)(a1:Int)(a2:Sl):M Unit:=sh (aF none aj [aI a0.1,vi a0.2]) λx0=>sh (aF none vw [aI a2]) λx1=>sh (aF none tB [Value.nilFunc]) λx2=>sh (bh (al x2) [.func (Fn.func pH) #[] #[.pointer (some (al x1)),.pointer (some (al x0)),.pointer (some (al x2))]]) λx3=>sh (aq .raw (al x2)) λ(x4:ξ)=>sh (nU n x4 a1) λx5=>AI ()
abbrev acE (n:Nat):dv:=⟨24,[.agg [.sl,.int .i64],aw,cw],[],υ3 (nz n)⟩
abbrev WC (n:Nat):List oZ:=[⟨8,[aw],[],λx a=>nU n x a⟩]
theorem aeD (n:Nat):pK TZp (WC n):=.cons (cS (l:=[⟨45,[aB,aB,aB],λa c=>ef n a c.1 c.2.1 c.2.2⟩]) (.cons (λa c=>aD (by kernel_rfl) ((Bu n) (a,c.1,c.2.1,c.2.2))) .nil) (λx a=>by kernel_rfl)) .nil
theorem Dv (n:Nat):aK TZp (acE n):=bw Tryz.f24 (C4 n) (dl:=WC n) (hT:=⟨.nil,K4 n,(aeD n),.nil,.nil⟩)
abbrev C5 (n:Nat):List dv:=acv n::Wf n::Wg n::Wh n::Wi n::Wj n::Wl n::Wm n::Wn n::Wo n::Wq n::acw n::acx n::Ww n::Wx n::acz n::Wz n::WA n::WB n::acA n::acB n::acC n::acD n::acE n::C4 n
theorem K5 (n:Nat):eE TZp (C5 n):=.cons (Dp n) (.cons (EG n) (.cons (EH n) (.cons (Dq n) (.cons (zy n) (.cons (AB n) (.cons (yT n) (.cons (HK n) (.cons (wH n) (.cons (HN n) (.cons (GD n) (.cons (HO n) (.cons (EI n) (.cons (Nn n) (.cons (xw n) (.cons (rE n) (.cons (EM n) (.cons (Dt n) (.cons (nS n) (.cons (EN n) (.cons (yi n) (.cons (wy n) (.cons (Du n) (.cons (Dv n) (K4 n))))))))))))))))))))))))
def mS (G:Addr->Addr->ζ->Int->Int->M (Unit⊕Bool))(n:Nat)(a0 a1:Addr)(a2:ζ)(a3 a4 a5:Int):M (Unit⊕Bool):=sh (oL a2 a3) λx0=>sh (aq .sl (a1.plus 1)) λ(x1:Sl)=>sh (ar x1 (i64.wrap (i64.wrap ((a2.size:Int)-1)-a3)) 1) λx2=>sh (bh x2 [.int IntKind.u8 (IntKind.u8.wrap ((x0.toNat:Int)-48))]) λx3=>G a0 a1 a2 a4 (i64.wrap (a5+1))
def mT (G:Addr->Addr->ζ->Int->Int->M (Unit⊕Bool))(n:Nat)(a0 a1:Addr)(a2:ζ)(a3 a4:Int):M (Unit⊕Bool):=if decide (a4<a3) then sh (oL a2 a4) λx0=>if decide ((x0.toNat:Int)<48) then sh (bh a0 [.bool false,aO]) λx1=>AI (Sum.inr false) else sh (oL a2 a4) λx1=>if decide (57<(x1.toNat:Int)) then sh (bh a0 [.bool false,aO]) λx2=>AI (Sum.inr false) else mS G n a0 a1 a2 a4 a3 a4 else AI (Sum.inl ())
def gw:Nat->Addr->Addr->ζ->Int->Int->M (Unit⊕Bool)|0=>λ_ _ _ _ _=>AS|n+1=>mT (gw n) n
theorem zH (n:Nat):gw (n+1)=mT (gw n) n:=rfl
def BA (n:Nat):=mS (gw n) n
def iT (n:Nat)(a0 a1:Addr)(a2:ζ):M ((Bool×Sl)×Bool):=sh (qM none jT [.int IntKind.u8 0] (a2.size:Int) (a2.size:Int)) λx0=>sh (bh (a1.plus 1) [aI x0]) λx1=>sh (gw n a0 a1 a2 (a2.size:Int) 0) (cz (λx2=>sh (aq .sl (a1.plus 1)) λ(x3:Sl)=>sh (rW n x3) λx4=>sh (bh (a1.plus 1) [aI x4]) λx5=>sh (aE [.bool,.sl] a1) λ(x6:Bool×Sl)=>sh (bh a0 [.bool x6.1,aI x6.2]) λx7=>sh (aE [.bool,.sl] a0) λ(x8:Bool×Sl)=>AI ((x8.1,x8.2),true)) (λx2=>sh (aE [.bool,.sl] a0) λ(x3:Bool×Sl)=>AI ((x3.1,x3.2),x2)))
def gC (n:Nat)(a0:ζ)(a1 a2:Addr)(a3:ζ):M ((Bool×Sl)×Bool):=if decide ((a3.size:Int)=0) then sh (bh a1 [.bool false,aO]) λx0=>sh (aE [.bool,.sl] a1) λ(x1:Bool×Sl)=>AI ((x1.1,x1.2),false) else if decide (400<(a3.size:Int)) then sh (bh a1 [.bool false,aO]) λx0=>sh (aE [.bool,.sl] a1) λ(x1:Bool×Sl)=>AI ((x1.1,x1.2),false) else sh (oL a3 0) λx0=>if decide ((x0.toNat:Int)=48) then if decide (1<(a0.size:Int)) then sh (bh a1 [.bool false,aO]) λx1=>sh (aE [.bool,.sl] a1) λ(x2:Bool×Sl)=>AI ((x2.1,x2.2),false) else iT n a1 a2 a3 else iT n a1 a2 a3
def mU (n:Nat)(a0:ζ):M ((Bool×Sl)×Bool):=sh (aF none aJ [.bool false,aO]) λx0=>sh (aF none aJ [.bool false,aO]) λx1=>sh (bh (al x1) [.bool false,aO]) λx2=>if decide (1<(a0.size:Int)) then sh (oL a0 0) λx3=>if decide ((x3.toNat:Int)=45) then sh (bh ((al x1).plus 0) [.bool true]) λx4=>sh (iq a0 1 (a0.size:Int)) λx5=>gC n a0 (al x0) (al x1) x5 else gC n a0 (al x0) (al x1) a0 else gC n a0 (al x0) (al x1) a0
abbrev acF (n:Nat):dv:=⟨89,[qG],[.agg [.bool,.sl],lS],λx=>mU n x⟩
abbrev JP:L2:=⟨[0,1,0,1,1,1,1,1,1],[(2,aB),(4,aB),(5,qG),(44,aw),(45,aw)],[],[(3,lS)],[3,6]++List.range' 45 27,0,.ret,λn=>υ5 (gw n)⟩
def WD (i:Nat):Option (List (Nat×η)):=Κ i 14 (Ω [0,2,3,4,5,6,7,8,9,10,1,11,12]) none
abbrev S0 (n:Nat):List (jm (Unit⊕Bool)):=[⟨[1,1,0,0,1,1,0,0,1,0,1,1,1,1,1,1],[.au 1,.code [1,1,1,0,0,1,0,1,1,1,1,1,1]],[(2,aB),(4,aB),(5,qG),(6,aw),(44,aw),(45,aw)],υ6 (BA n)⟩]
abbrev aeE (n:Nat):List (jm ((Bool×Sl)×Bool)):=[⟨[0,0,1,1,1,1],[.code [1,0,1,1,1,1],.code [1,1,1,1,1]],[(0,qG),(2,aB),(4,aB),(5,qG)],υ4 (gC n)⟩, ⟨[0,1,1,1,1,1],[.code [1,1,1,1,1,1]],[(2,aB),(4,aB),(5,qG)],υ3 (iT n)⟩]
theorem S5 (n:Nat):lA TZp Tryz.f89 (JP.e n) JP.ws:=L2.ok Tryz.f89 JP n C5 (dr:=WD) (jt:=S0) (hT:=λm _=>⟨.nil,K5 m,.nil,.nil,(.cc .nil)⟩)
theorem EO (n:Nat):aK TZp (acF n):=bw Tryz.f89 (C5 n) (ll:=[JP.e n]) (dr:=WD) (js:=aeE n) (hT:=⟨.nil,K5 n,.nil,(.cc (S5 n) .nil),(.cc (.cc .nil))⟩)
def lj (n:Nat)(a0:Bool×Sl×Int):M ζ:=sh (aF none bW [.bool a0.1,aI a0.2.1,vi a0.2.2]) λx0=>sh (aq .sl ((al x0).plus 1)) λ(x1:Sl)=>if decide ((x1.len:Int)=0) then AI (ofBytes [48]) else sh (aE [.bool,.sl,li] (al x0)) λ(x2:Bool×Sl×Int)=>sh (aE [.bool,.sl,li] (al x0)) λ(x3:Bool×Sl×Int)=>sh (k8 [some (al x0)] (lh n (x2.1,x2.2.1,x2.2.2))) λx4=>sh (jg n (x3.1,x3.2.1,x3.2.2)) λx5=>sh (nN x4 x5) λx6=>AI x6
abbrev WE (n:Nat):dv:=⟨141,[.agg [.bool,.sl,.int .i64]],[qG],λx=>lj n x⟩
def aaM (i:Nat):Option (List (Nat×η)):=Κ i 3 (Ω [0,2]++[(1,[2])]++Ω [3,4,5]) none
theorem AG (n:Nat):aK TZp (WE n):=bw Tryz.f141 (C5 n) (dr:=aaM) (hT:=.m1 (K5 n))
def zI (n:Nat):M (Nat):=sh (bY n 9221120237041090561) λx0=>AI x0
abbrev WG (n:Nat):dv:=⟨115,[],[.one (.f64)],λ_=>zI n⟩
theorem Np (n:Nat):aK TZp (WG n):=bw Tryz.f115 (C5 n) (hT:=.m1 (K5 n))
def vR (n:Nat)(a0:Int):M (Nat):=if decide (0<=a0) then sh (bY n 9218868437227405312) λx0=>AI x0 else sh (bY n 18442240474082181120) λx0=>AI x0
abbrev WH (n:Nat):dv:=⟨116,[aw],[.one (.f64)],λx=>vR n x⟩
theorem Nq (n:Nat):aK TZp (WH n):=bw Tryz.f116 (C5 n) (hT:=.m1 (K5 n))
def mV (n:Nat)(a0 a1:ζ):M (ζ×ζ×Bool):=sh (fV n a0 a1) λx0=>if decide (0<=x0) then sh (iq a0 0 x0) λx1=>sh (iq a0 (i64.wrap (x0+(a1.size:Int))) (a0.size:Int)) λx2=>AI (x1,x2,true) else AI (a0,(ofBytes []),false)
abbrev WI (n:Nat):dv:=⟨144,[qG,qG],[qG,qG,lS],υ2 (mV n)⟩
def aaN (i:Nat):Option (List (Nat×η)):=Κ i 3 (Ω [0,1,2,3,4,5,6,7,8,9,10,11]) none
theorem zJ (n:Nat):aK TZp (WI n):=bw Tryz.f144 (C5 n) (dr:=aaN) (hT:=.m1 (K5 n))
def mW (n:Nat)(a0 a1:Int):M Bool:=sh (eT n a0) λx0=>sh (px (decide (2≠0))) λx1=>if decide (a0.tmod 2=1) then if decide (x0<=53) then if decide (-1074<=a1) then if decide (a1<=1023) then AI (decide (i64.wrap (a1+x0)<=1024)) else AI false else AI false else AI false else AI false
abbrev WJ (n:Nat):dv:=⟨119,[.one (.int .u64),aw],[lS],υ2 (mW n)⟩
theorem GH (n:Nat):aK TZp (WJ n):=bw Tryz.f119 (C5 n) (hT:=.m1 (K5 n))
def kZ (n a0 a1:Nat):M (Nat):=sh (ep n a0) λx0=>sh (ep n a1) λx1=>sh (bY n (IntKind.u64.wrap (↑(BitVec.ofInt 64 (IntKind.u64.wrap (↑(BitVec.ofInt 64 x0&&&~~~BitVec.ofInt 64 9223372036854775808).toNat:Int))|||BitVec.ofInt 64 (IntKind.u64.wrap (↑(BitVec.ofInt 64 x1&&&BitVec.ofInt 64 9223372036854775808).toNat:Int))).toNat:Int))) λx2=>AI x2
abbrev WK (n:Nat):dv:=⟨122,[.one (.f64),.one (.f64)],[.one (.f64)],υ2 (kZ n)⟩
theorem Dw (n:Nat):aK TZp (WK n):=bw Tryz.f122 (C5 n) (hT:=.m1 (K5 n))
def vS (n a0:Nat):M (Nat):=sh (ep n a0) λx0=>sh (bY n (IntKind.u64.wrap (↑(BitVec.ofInt 64 x0&&&~~~BitVec.ofInt 64 9223372036854775808).toNat:Int))) λx1=>AI x1
abbrev WL (n:Nat):dv:=⟨177,[.one (.f64)],[.one (.f64)],λx=>vS n x⟩
theorem Nr (n:Nat):aK TZp (WL n):=bw Tryz.f177 (C5 n) (hT:=.m1 (K5 n))
def se (n a0:Nat):M Bool:=sh (ep n a0) λx0=>AI (decide (i64.wrap x0<0))
abbrev WM (n:Nat):dv:=⟨148,[.one (.f64)],[lS],λx=>se n x⟩
theorem EP (n:Nat):aK TZp (WM n):=bw Tryz.f148 (C5 n) (hT:=.m1 (K5 n))
def lG (n:Nat)(a0 a1:Int):M ζ:=sh (eK n a0 a1) λx0=>AI x0
abbrev WN (n:Nat):dv:=⟨151,[.one (.int .u64),aw],[qG],υ2 (lG n)⟩
theorem yV (n:Nat):aK TZp (WN n):=bw Tryz.f151 (C5 n) (hT:=.m1 (K5 n))
def gJ (n:Nat)(x:ξ)(a0:Int):M (Int×Bool):=if qo pZ x then sh (k7 [aB,aB] x) λ(c:Addr×Addr)=>jz n a0 c.1 c.2 else AS
def dB (G:Sl->Int->Int->Addr->Addr->Addr->Int->Int->M (Unit⊕Bool))(n:Nat)(a0:Sl)(a1 a2:Int)(a3 a4 a5:Addr)(a6 a7 a8 a9:Int):M (Unit⊕Bool):=sh (aq .raw a5) λ(x0:ξ)=>sh (gJ n x0 a7) λx1=>if !x1.2 then AI (Sum.inr false) else sh (ar a0 a6 1) λx2=>sh (bh x2 [vi x1.1]) λx3=>G a0 a1 a2 a3 a4 a5 a8 (i64.wrap (a9+1))
def fY (G:Sl->Int->Int->Addr->Addr->Addr->Int->Int->M (Unit⊕Bool))(n:Nat)(a0:Sl)(a1 a2:Int)(a3 a4 a5:Addr)(a6 a7:Int):M (Unit⊕Bool):=if decide (a7<a6) then if decide (0<a7) then sh (aq li a3) λ(x0:Int)=>sh (aq .str a4) λ(x1:ζ)=>if decide ((↑(ByteArray.size x1):Int)<=x0) then AI (Sum.inr false) else sh (aq .str a4) λ(x2:ζ)=>sh (aq li a3) λ(x3:Int)=>sh (oL x2 x3) λx4=>if !decide ((x4.toNat:Int)=a2) then AI (Sum.inr false) else sh (aq li a3) λ(x5:Int)=>sh (bh a3 [vi (i64.wrap (x5+1))]) λx6=>if decide (a7=0) then dB G n a0 a1 a2 a3 a4 a5 a7 a1 a6 a7 else dB G n a0 a1 a2 a3 a4 a5 a7 2 a6 a7 else if decide (a7=0) then dB G n a0 a1 a2 a3 a4 a5 a7 a1 a6 a7 else dB G n a0 a1 a2 a3 a4 a5 a7 2 a6 a7 else AI (Sum.inl ())
def eH:Nat->Sl->Int->Int->Addr->Addr->Addr->Int->Int->M (Unit⊕Bool)|0=>λ_ _ _ _ _ _ _ _=>AS|n+1=>fY (eH n) n
def zK (n:Nat):=dB (eH n) n
def eA (n:Nat)(a0:Sl)(a1 a2:Int)(a3 a4 a5:Addr):M Bool:=sh (eH n a0 a1 a2 a3 a4 a5 (a0.len:Int) 0) (cz (λx0=>AI true) (λx0=>AI x0))
abbrev WO (n:Nat):dv:=⟨125,[cw,aw,.one (.int .u8),aB,aB,aB],[lS],υ6 (eA n)⟩
abbrev Fw:L2:=⟨[0,1,0,1],[(0,cw),(1,aw),(2,.one (.int .u8)),(3,aB),(4,aB),(5,aB),(15,aw),(16,aw)],[],[(9,lS)],List.range' 9 5++List.range' 16 34,0,.ret,λn=>υ8 (eH n)⟩
abbrev JQ (n:Nat):List oZ:=[⟨38,[aw],[aw,lS],λx a=>gJ n x a⟩]
abbrev Po (n:Nat):List (jm (Unit⊕Bool)):=[⟨[0,1,1,1,1,0,0,1,1,0,0,1,0,1],[.code [1,1,1,1,1,0,0,1,1,0,0,1,0,1],.au 1,.code [1,1,1,0,0,1,0,1]],[(0,cw),(1,aw),(2,.one (.int .u8)),(3,aB),(4,aB),(5,aB),(10,aw),(11,aw),(15,aw),(16,aw)],υ10 (zK n)⟩]
theorem QZ (n:Nat):pK TZp (JQ n):=.cons (cS (l:=[⟨124,[aB,aB],λa c=>jz n a c.1 c.2⟩]) (.cons (λa c=>aD (by kernel_rfl) ((wH n) (a,c.1,c.2))) .nil) (λx a=>by kernel_rfl)) .nil
theorem Pp (n:Nat):lA TZp Tryz.f125 (Fw.e n) Fw.ws:=L2.ok Tryz.f125 Fw n C5 (dt:=JQ) (jt:=Po) (hT:=λm _=>⟨.nil,K5 m,(QZ m),.nil,(.cc .nil)⟩)
theorem pI (n:Nat):aK TZp (WO n):=bw Tryz.f125 (C5 n) (dl:=JQ n) (ll:=[Fw.e n]) (hT:=⟨.nil,K5 n,(QZ n),(.cc (Pp n) .nil),.nil⟩)
def kO (n:Nat)(a0 a1:Int):M Int:=sh (aF none GC [vi 0,vi 0,vi 0,vi 0,vi 0,vi 0,vi 0,vi 0,vi 0,vi 0,vi 0,vi 0,vi 0]) λx0=>sh (bh (al x0) [vi 0,vi 31,vi 28,vi 31,vi 30,vi 31,vi 30,vi 31,vi 31,vi 30,vi 31,vi 30,vi 31]) λx1=>if decide (a1=2) then sh (tE n a0) λx2=>if x2 then AI 29 else sh (px (decide (0<=a1/\a1<(↑13:Int)))) λx3=>sh (aq li ((al x0).plus (a1.toNat*1))) λ(x4:Int)=>AI x4 else sh (px (decide (0<=a1/\a1<(↑13:Int)))) λx2=>sh (aq li ((al x0).plus (a1.toNat*1))) λ(x3:Int)=>AI x3
abbrev WQ (n:Nat):dv:=⟨153,[aw,aw],[aw],υ2 (kO n)⟩
theorem ER (n:Nat):aK TZp (WQ n):=bw Tryz.f153 (C5 n) (hT:=.m1 (K5 n))
def iU (n:Nat)(a0 a1:Int):M ζ:=sh (strconv_Itoa n a0) λx0=>sh (strings_Repeat n (ofBytes [48]) (if 0<i64.wrap (a1-(↑(ByteArray.size x0):Int)) then i64.wrap (a1-(↑(ByteArray.size x0):Int)) else 0)) λx1=>sh (nN x1 x0) λx2=>AI x2
abbrev WR (n:Nat):dv:=⟨155,[aw,aw],[qG],υ2 (iU n)⟩
theorem GI (n:Nat):aK TZp (WR n):=bw Tryz.f155 (C5 n) (hT:=.m1 (K5 n))
def nV (G:Addr->μ->Int->Addr->Sl->Int->Int->Sl->Int->Int->Sl->Int->Int->M (Unit⊕Bool))(n:Nat)(a0:Addr)(a1:μ)(a2:Int)(a3:Addr)(a4:Sl)(a5 a6:Int)(a7:Sl)(a8 a9:Int)(a10:Sl)(a11 a12:Int):M (Unit⊕Bool):=if decide (a12<a11) then sh (ar a10 a12 1) λx0=>sh (aq li x0) λ(x1:Int)=>sh (aE [.sl,li] a0) λ(x2:Sl×Int)=>sh (iA n (x2.1,x2.2) a2 x1) λx3=>if x3 then AI (Sum.inr true) else G a0 a1 a2 a3 a4 a5 a6 a7 a8 a9 a10 a11 (i64.wrap (a12+1)) else AI (Sum.inl ())
def jB:Nat->Addr->μ->Int->Addr->Sl->Int->Int->Sl->Int->Int->Sl->Int->Int->M (Unit⊕Bool)|0=>λ_ _ _ _ _ _ _ _ _ _ _ _ _=>AS|n+1=>nV (jB n) n
theorem AH (n:Nat):jB (n+1)=nV (jB n) n:=rfl
def nW (G:Addr->μ->Sl->Int->Int->Sl->Int->Int->M (Unit⊕Bool))(n:Nat)(a0:Addr)(a1:μ)(a2:Sl)(a3 a4:Int)(a5:Sl)(a6 a7:Int):M (Unit⊕Bool):=if decide (a7<a6) then sh (ar a5 a7 1) λx0=>sh (aq li x0) λ(x1:Int)=>sh (dz 15) λx2=>sh (aq .sl (a0.plus 0)) λ(x3:Sl)=>sh (ar x3 x1 5) λx4=>sh (aq li (x4.plus 0)) λ(x5:Int)=>sh (aq .sl (a0.plus 0)) λ(x6:Sl)=>sh (ar x6 x1 5) λx7=>sh (aq .str (x7.plus 1)) λ(x8:ζ)=>sh (aF (some (x2+13)) eN [vi 0,.string (ofBytes [])]) λx9=>sh (bh (al x9) [vi x5,.string x8]) λfD=>sh (aE [li,.str] (al x9)) λ(x11:Int×ζ)=>sh (um eN (Ty.one .sl) qQ a1 (Value.agg #[vi x11.1,.string x11.2])) λ(x12:Bool×Sl)=>sh (jB n a0 a1 x1 (al x9) a2 a3 a4 a5 a6 a7 x12.2 (x12.2.len:Int) 0) (cz (λx13=>sh (aE [li,.str] (al x9)) λ(jj:Int×ζ)=>sh (oM eN (Ty.one .sl) qQ a1 (Value.agg #[vi jj.1,.string jj.2])) λx15=>sh (app false x15.1 1 an 1 [vi x1]) λrz=>sh (qF a1 (x15.2:Int) (aI rz)) λx17=>G a0 a1 a2 a3 a4 a5 a6 (i64.wrap (a7+1))) (λx13=>AI (Sum.inr x13))) else AI (Sum.inl ())
def iD:Nat->Addr->μ->Sl->Int->Int->Sl->Int->Int->M (Unit⊕Bool)|0=>λ_ _ _ _ _ _ _ _=>AS|n+1=>nW (iD n) n
theorem AJ (n:Nat):iD (n+1)=nW (iD n) n:=rfl
def nX (G:Addr->Sl->Int->Int->M (Unit⊕Bool))(n:Nat)(a0:Addr)(a1:Sl)(a2 a3:Int):M (Unit⊕Bool):=if decide (a3<a2) then sh (ar a1 a3 5) λx0=>sh (aE [li,.str,.bool,.sl,.sl] x0) λ(x1:Int×ζ×Bool×Sl×Sl)=>sh (aF none aA [vi 0,.string (ofBytes []),.bool false,aO,aO]) λx2=>sh (bh (al x2) [vi x1.1,.string x1.2.1,.bool x1.2.2.1,aI x1.2.2.2.1,aI x1.2.2.2.2]) λx3=>sh (xc eN) λx4=>sh (aq .sl ((al x2).plus 3)) λ(x5:Sl)=>sh (iD n a0 (some x4) a1 a2 a3 x5 (x5.len:Int) 0) (cz (λx6=>G a0 a1 a2 (i64.wrap (a3+1))) (λx6=>AI (Sum.inr x6))) else AI (Sum.inl ())
def iE:Nat->Addr->Sl->Int->Int->M (Unit⊕Bool)|0=>λ_ _ _ _=>AS|n+1=>nX (iE n) n
theorem AK (n:Nat):iE (n+1)=nX (iE n) n:=rfl
def rr (n:Nat)(a0:Sl×Int):M Bool:=sh (aF none aj [aI a0.1,vi a0.2]) λx0=>sh (aq .sl ((al x0).plus 0)) λ(x1:Sl)=>sh (iE n (al x0) x1 (x1.len:Int) 0) (cz (λx2=>AI false) (λx2=>AI x2))
abbrev acG (n:Nat):dv:=⟨28,[.agg [.sl,.int .i64]],[lS],λx=>rr n x⟩
abbrev JR:L2:=⟨[0,1,0,1],[(1,aB),(12,cw),(13,aw),(14,aw)],[],[(2,lS)],[2,4,5,7,8,10]++List.range' 14 48,0,.ret,λn=>υ4 (iE n)⟩
abbrev JS:L2:=⟨[0,1,1,1,0,0,1,1,0,0,1,0,1],[(1,aB),(5,tyM),(12,cw),(13,aw),(14,aw),(20,cw),(21,aw),(22,aw)],[],[(2,lS)],[2,7,8,10]++List.range' 22 39,2,.ret,λn=>υ8 (iD n)⟩
abbrev JT:L2:=⟨[0,1,0,1,1,0,0,1,1,0,0,1,1,1,0,0,1,1,0,0,1,0,1],[(1,aB),(5,tyM),(7,aw),(8,aB),(12,cw),(13,aw),(14,aw),(20,cw),(21,aw),(22,aw),(41,cw),(42,aw),(43,aw)],[],[(2,lS)],[2,10]++List.range' 43 9,4,.ret,λn=>υ13 (jB n)⟩
def JU (i:Nat):Option (List (Nat×η)):=Κ i 8 (Ω [0,2,6,8,1,3,4,5,7,9,10,11,12,13,14]) none
theorem S6 (n:Nat):lA TZp Tryz.f28 (JT.e n) JT.ws:=L2.ok Tryz.f28 JT n C5 (dr:=JU) (hT:=λm _=>.m1 (K5 m))
theorem S7 (n:Nat):lA TZp Tryz.f28 (JS.e n) JS.ws:=L2.ok Tryz.f28 JS n C5 (lt:=λn=>[JT.e n]) (dr:=JU) (hT:=λm _=>⟨.nil,K5 m,.nil,(.cc (S6 m) .nil),.nil⟩)
theorem S8 (n:Nat):lA TZp Tryz.f28 (JR.e n) JR.ws:=L2.ok Tryz.f28 JR n C5 (lt:=λn=>[JS.e n]) (dr:=JU) (hT:=λm _=>⟨.nil,K5 m,.nil,(.cc (S7 m) .nil),.nil⟩)
theorem GJ (n:Nat):aK TZp (acG n):=bw Tryz.f28 (C5 n) (ll:=[JR.e n]) (dr:=JU) (hT:=⟨.nil,K5 n,.nil,(.cc (S8 n) .nil),.nil⟩)
def jC (n:Nat)(x:ξ)(a0:Int):M Unit:=if qo mG x then sh (k7 [aB,aB,aB,aB,aB,aB,aB,aB,aB] x) λ(c:Addr×Addr×Addr×Addr×Addr×Addr×Addr×Addr×Addr)=>cU n a0 c.1 c.2.1 c.2.2.1 c.2.2.2.1 c.2.2.2.2.1 c.2.2.2.2.2.1 c.2.2.2.2.2.2.1 c.2.2.2.2.2.2.2.1 c.2.2.2.2.2.2.2.2 else AS
def jd (G:Addr->Int->Addr->Addr->Addr->Int->Int->M Unit)(n:Nat)(a0:Addr)(a1:Int)(a2 a3 a4:Addr)(a5 a6:Int):M Unit:=if decide (a6<a5) then sh (aq .sl a4) λ(x0:Sl)=>sh (ar x0 a6 1) λx1=>sh (bh x1 [vi (-1)]) λx2=>G a0 a1 a2 a3 a4 a5 (i64.wrap (a6+1)) else AI ()
def fh:Nat->Addr->Int->Addr->Addr->Addr->Int->Int->M Unit|0=>λ_ _ _ _ _ _ _=>AS|n+1=>jd (fh n) n
theorem w6 (n:Nat):fh (n+1)=jd (fh n) n:=rfl
def lr (n:Nat)(a0:Sl×Int):M (Sl×Sl):=sh (aF none aj [aI a0.1,vi a0.2]) λx0=>sh (aq .sl ((al x0).plus 0)) λ(x1:Sl)=>sh (dz 12) λx2=>sh (qM (some (x2+1)) an [vi 0] (x1.len:Int) (x1.len:Int)) λx3=>sh (qM (some (x2+3)) an [vi 0] (x1.len:Int) (x1.len:Int)) λx4=>sh (qM (some (x2+5)) an [vi 0] (x1.len:Int) (x1.len:Int)) λx5=>sh (aF (some (x2+6)) aR [aO]) λx6=>sh (aF (some (x2+7)) aR [aO]) λx7=>sh (aF (some (x2+8)) aR [aO]) λx8=>sh (yN [x2+3,x2+5] (al x6) (k8 [none,none] (bh (al x6) [aI x3]))) λx9=>sh (yN [x2+5] (al x7) (k8 [none] (bh (al x7) [aI x4]))) λfD=>sh (bh (al x8) [aI x5]) λx11=>sh (aq .sl (al x8)) λ(x12:Sl)=>sh (fh n (al x0) (x1.len:Int) (al x6) (al x7) (al x8) (x12.len:Int) 0) λx13=>sh (aF none aR [aO]) λjj=>sh (aF none aR [aO]) λx15=>sh (qM none Bp [.bool false] (x1.len:Int) (x1.len:Int)) λrz=>sh (aF none vw [aO]) λx17=>sh (bh (al x17) [aI rz]) λvB=>sh (aF none an [vi 0]) λx19=>sh (bh (al x19) [vi 0]) λx20=>sh (aF none tB [Value.nilFunc]) λx21=>sh (bh (al x21) [.func (Fn.func mG) #[] #[.pointer (some (al x19)),.pointer (some (al x6)),.pointer (some (al x7)),.pointer (some (al x15)),.pointer (some (al x17)),.pointer (some (al x21)),.pointer (some (al x0)),.pointer (some (al jj)),.pointer (some (al x8))]]) λx22=>sh (aq .raw (al x21)) λ(x23:ξ)=>sh (aq li ((al x0).plus 1)) λ(x24:Int)=>sh (jC n x23 x24) λx25=>sh (aq .sl (al x8)) λ(x26:Sl)=>sh (aq .sl (al jj)) λ(x27:Sl)=>AI (x26,x27)
abbrev acH (n:Nat):dv:=⟨48,[.agg [.sl,.int .i64]],[cw,cw],λx=>lr n x⟩
abbrev JV:L1:=⟨[0,1,0,1,1,1],[(1,aB),(4,aw),(5,aB),(6,aB),(7,aB),(24,aw),(25,aw)],[],[8]++List.range' 25 7,0,λn=>υ7 (fh n)⟩
abbrev Pq (n:Nat):List oZ:=[⟨35,[aw],[],λx a=>jC n x a⟩]
def WS (i:Nat):Option (List (Nat×η)):=Κ i 2 (Ω [0,2,4,1,3,5,6,7,8]++[(9,[3,5]),(10,[5])]++Ω [11]) (Κ i 14 (Ω [0,2,1,3]) none)
theorem WT (n:Nat):pK TZp (Pq n):=.cons (cS (l:=[⟨69,[aB,aB,aB,aB,aB,aB,aB,aB,aB],λa c=>cU n a c.1 c.2.1 c.2.2.1 c.2.2.2.1 c.2.2.2.2.1 c.2.2.2.2.2.1 c.2.2.2.2.2.2.1 c.2.2.2.2.2.2.2.1 c.2.2.2.2.2.2.2.2⟩]) (.cons (λa c=>aD (by kernel_rfl) ((yU n) (a,c.1,c.2.1,c.2.2.1,c.2.2.2.1,c.2.2.2.2.1,c.2.2.2.2.2.1,c.2.2.2.2.2.2.1,c.2.2.2.2.2.2.2.1,c.2.2.2.2.2.2.2.2))) .nil) (λx a=>by kernel_rfl)) .nil
theorem S9 (n:Nat):lA TZp Tryz.f48 (JV.e n) JV.ws:=L1.ok Tryz.f48 JV n C5 (dt:=Pq) (dr:=WS) (hT:=λm _=>⟨.nil,K5 m,(WT m),.nil,.nil⟩)
theorem AL (n:Nat):aK TZp (acH n):=bw Tryz.f48 (C5 n) (dl:=Pq n) (ll:=[JV.e n]) (dr:=WS) (hT:=⟨.nil,K5 n,(WT n),(.cc (S9 n) .nil),.nil⟩)
def yj (n:Nat)(x:ξ)(a0:Int):M Int:=if qo uf x then sh (k7 [aB,aB,aB] x) λ(c:Addr×Addr×Addr)=>kY n a0 c.1 c.2.1 c.2.2 else AS
def Ak (n:Nat)(a0:Sl×Int)(a1:Int):M (Sl×Int):=sh (aF none aj [aI a0.1,vi a0.2]) λx0=>sh (aF none aj [aO,vi 0]) λx1=>sh (aF none aj [aO,vi 0]) λx2=>sh (aF none kV [Value.nilFunc]) λx3=>sh (bh (al x3) [.func (Fn.func uf) #[] #[.pointer (some (al x2)),.pointer (some (al x0)),.pointer (some (al x3))]]) λx4=>sh (aq .raw (al x3)) λ(x5:ξ)=>sh (yj n x5 a1) λx6=>sh (aE [.sl,li] (al x2)) λ(x7:Sl×Int)=>sh (bh (al x1) [aI x7.1,vi x7.2]) λx8=>sh (aE [.sl,li] (al x1)) λ(x9:Sl×Int)=>AI (x9.1,x9.2)
abbrev acI (n:Nat):dv:=⟨49,[.agg [.sl,.int .i64],aw],[.agg [.sl,.int .i64]],υ2 (Ak n)⟩
abbrev WU (n:Nat):List oZ:=[⟨8,[aw],[aw],λx a=>yj n x a⟩]
theorem aeF (n:Nat):pK TZp (WU n):=.cons (cS (l:=[⟨71,[aB,aB,aB],λa c=>kY n a c.1 c.2.1 c.2.2⟩]) (.cons (λa c=>aD (by kernel_rfl) ((GG n) (a,c.1,c.2.1,c.2.2))) .nil) (λx a=>by kernel_rfl)) .nil
theorem JW (n:Nat):aK TZp (acI n):=bw Tryz.f49 (C5 n) (dl:=WU n) (hT:=⟨.nil,K5 n,(aeF n),.nil,.nil⟩)
def j6 (n:Nat)(a0 a1:ζ):M Int:=sh (cT n a0 a1) λx0=>AI x0
abbrev acJ (n:Nat):dv:=⟨59,[qG,qG],[aw],υ2 (j6 n)⟩
theorem vT (n:Nat):aK TZp (acJ n):=bw Tryz.f59 (C5 n) (hT:=.m1 (K5 n))
def qv (n:Nat)(a0:Int):M Int:=sh (eT n a0) λx0=>AI x0
abbrev acK (n:Nat):dv:=⟨58,[.one (.int .u64)],[aw],λx=>qv n x⟩
theorem Dx (n:Nat):aK TZp (acK n):=bw Tryz.f58 (C5 n) (hT:=.m1 (K5 n))
def oR (n:Nat)(x:ξ)(a0:Bool×Sl×Int)(a1:Int):M Int:=if qo kJ x then sh (k7 [] x) λ(_:Unit)=>fH n a0 a1 else AS
def oS (n:Nat)(x:ξ)(a0:Bool×Sl×Int)(a1:Int):M Int:=if qo kJ x then sh (k7 [] x) λ(_:Unit)=>fH n a0 a1 else AS
def nY (G:Addr->Addr->ξ->Int->Int->M (Unit⊕Int))(n:Nat)(a0 a1:Addr)(a2:ξ)(a3 a4:Int):M (Unit⊕Int):=if decide (a4<a3) then sh (aE [.bool,.sl,li] a0) λ(x0:Bool×Sl×Int)=>sh (aE [.bool,.sl,li] a1) λ(x1:Bool×Sl×Int)=>sh (k8 [some a1] (oR n a2 (x0.1,x0.2.1,x0.2.2) a4)) λx2=>sh (oS n a2 (x1.1,x1.2.1,x1.2.2) a4) λx3=>if !decide (i64.wrap (i64.wrap x2-i64.wrap x3)=0) then AI (Sum.inr (i64.wrap (i64.wrap x2-i64.wrap x3))) else G a0 a1 a2 a3 (i64.wrap (a4+1)) else AI (Sum.inl ())
def gj:Nat->Addr->Addr->ξ->Int->Int->M (Unit⊕Int)|0=>λ_ _ _ _ _=>AS|n+1=>nY (gj n) n
theorem vU (n:Nat):gj (n+1)=nY (gj n) n:=rfl
def pA (n:Nat)(a0 a1:Addr):M Int:=sh (aq .sl (a0.plus 1)) λ(x0:Sl)=>sh (aq li (a0.plus 2)) λ(x1:Int)=>sh (aq .sl (a1.plus 1)) λ(x2:Sl)=>sh (aq li (a1.plus 2)) λ(x3:Int)=>if !decide (i64.wrap (i64.wrap (i64.wrap ((x0.len:Int)+x1)-(x2.len:Int))-x3)=0) then AI (i64.wrap (i64.wrap (i64.wrap ((x0.len:Int)+x1)-(x2.len:Int))-x3)) else sh (aq .sl (a0.plus 1)) λ(x4:Sl)=>sh (aq .sl (a1.plus 1)) λ(x5:Sl)=>sh (gj n a0 a1 (Value.func (Fn.func kJ) #[] #[]) (if (x4.len:Int)<(x5.len:Int) then (x5.len:Int) else (x4.len:Int)) 0) (cz (λx6=>AI 0) (λx6=>AI x6))
def oT (n:Nat)(a0 a1:Bool×Sl×Int):M Int:=sh (aF none bW [.bool a0.1,aI a0.2.1,vi a0.2.2]) λx0=>sh (aF none bW [.bool a1.1,aI a1.2.1,vi a1.2.2]) λx1=>sh (aq .sl ((al x0).plus 1)) λ(x2:Sl)=>if decide ((x2.len:Int)=0) then sh (aq .sl ((al x0).plus 1)) λ(x3:Sl)=>sh (aq .sl ((al x1).plus 1)) λ(x4:Sl)=>AI (i64.wrap ((x3.len:Int)-(x4.len:Int))) else sh (aq .sl ((al x1).plus 1)) λ(x3:Sl)=>if decide ((x3.len:Int)=0) then sh (aq .sl ((al x0).plus 1)) λ(x4:Sl)=>sh (aq .sl ((al x1).plus 1)) λ(x5:Sl)=>AI (i64.wrap ((x4.len:Int)-(x5.len:Int))) else pA n (al x0) (al x1)
abbrev WV (n:Nat):dv:=⟨188,[.agg [.bool,.sl,.int .i64],.agg [.bool,.sl,.int .i64]],[aw],υ2 (oT n)⟩
abbrev Fx:L2:=⟨[0,1,0,1,1,1,1],[(2,aB),(3,aB),(6,th),(48,aw),(49,aw)],[],[(4,aw)],[4,7,8]++List.range' 49 18,0,.ret,λn=>υ5 (gj n)⟩
abbrev JX (n:Nat):List oZ:=[⟨52,[.agg [.bool,.sl,.int .i64],aw],[.one (.int .u8)],λx a=>oR n x a.1 a.2⟩, ⟨57,[.agg [.bool,.sl,.int .i64],aw],[.one (.int .u8)],λx a=>oS n x a.1 a.2⟩]
def Q0 (i:Nat):Option (List (Nat×η)):=Κ i 10 (Ω [0,2,5,7,1,6]++[(3,[6])]++Ω [4,8,9,10,11]) none
abbrev aaO (n:Nat):List (jm Int):=[⟨[0,0,1,1],[.code [1,0,1,1],.code [1,1,1]],[(2,aB),(3,aB)],υ2 (pA n)⟩]
theorem Q1 (n:Nat):pK TZp (JX n):=.cons (cS (l:=[⟨200,[],λa _=>fH n a.1 a.2⟩]) (.cons (λa c=>aD (by kernel_rfl) ((nS n) (a.1,a.2))) .nil) (λx a=>by kernel_rfl)) (.cons (cS (l:=[⟨200,[],λa _=>fH n a.1 a.2⟩]) (.cons (λa c=>aD (by kernel_rfl) ((nS n) (a.1,a.2))) .nil) (λx a=>by kernel_rfl)) .nil)
theorem Pr (n:Nat):lA TZp Tryz.f188 (Fx.e n) Fx.ws:=L2.ok Tryz.f188 Fx n C5 (dt:=JX) (dr:=Q0) (hT:=λm _=>⟨.nil,K5 m,(Q1 m),.nil,.nil⟩)
theorem yW (n:Nat):aK TZp (WV n):=bw Tryz.f188 (C5 n) (dl:=JX n) (ll:=[Fx.e n]) (dr:=Q0) (js:=aaO n) (hT:=⟨.nil,K5 n,(Q1 n),(.cc (Pr n) .nil),(.cc .nil)⟩)
def jD (G:θ->Sl->Int->Int->M (Unit⊕Int))(n:Nat)(a0:θ)(a1:Sl)(a2 a3:Int):M (Unit⊕Int):=if decide (a3<a2) then sh (ar a1 a3 1) λx0=>sh (aq li x0) λ(x1:Int)=>sh (nn a0) λx2=>sh (aq .sl ((x2.plus 0).plus 0)) λ(x3:Sl)=>sh (ar x3 x1 5) λx4=>sh (aq li (x4.plus 0)) λ(x5:Int)=>if !decide (x5=5) then AI (Sum.inr 16) else G a0 a1 a2 (i64.wrap (a3+1)) else AI (Sum.inl ())
def dP:Nat->θ->Sl->Int->Int->M (Unit⊕Int)|0=>λ_ _ _ _=>AS|n+1=>jD (dP n) n
theorem sf (n:Nat):dP (n+1)=jD (dP n) n:=rfl
def kP (n:Nat)(a0:θ)(a1:Addr)(a2:Int):M Int:=if decide (a2=6) then sh (aq .str (a1.plus 1)) λ(x0:ζ)=>sh (eW n x0) λx1=>if x1 then AI 11 else AI 0 else if decide (a2=10) then sh (aq .bool (a1.plus 2)) λ(x0:Bool)=>if x0 then AI 10 else sh (aq .sl (a1.plus 3)) λ(x1:Sl)=>sh (dP n a0 x1 (x1.len:Int) 0) (cz (λx2=>AI 0) (λx2=>AI x2)) else AI 10
def jr (n:Nat)(a0:θ)(a1:Int×ζ×Bool×Sl×Sl):M Int:=sh (aF none aA [vi a1.1,.string a1.2.1,.bool a1.2.2.1,aI a1.2.2.2.1,aI a1.2.2.2.2]) λx0=>sh (aq li ((al x0).plus 0)) λ(x1:Int)=>if decide (x1=2) then AI 0 else if decide (x1=5) then AI 0 else if decide (x1=9) then AI 0 else kP n a0 (al x0) x1
abbrev acL (n:Nat):dv:=⟨33,[BZ,.agg [.int .i64,.str,.bool,.sl,.sl]],[aw],υ2 (jr n)⟩
abbrev JY:L2:=⟨[0,1,0,1,0,1,1,1,1,1,0,1,0,1],[(0,BZ),(23,cw),(24,aw),(25,aw)],[],[(4,aw)],[4,6]++List.range' 25 15,1,.ret,λn=>υ4 (dP n)⟩
abbrev aeG (n:Nat):List (jm Int):=[⟨[0,1,1,0,1,0,1],[.code [1,1,1,0,1,0,1],.au 0,.code [1,1]],[(0,BZ),(3,aB),(8,aw)],υ3 (kP n)⟩]
theorem Ta (n:Nat):lA TZp Tryz.f33 (JY.e n) JY.ws:=L2.ok Tryz.f33 JY n C5 (hT:=λm _=>.m1 (K5 m))
theorem va (n:Nat):aK TZp (acL n):=bw Tryz.f33 (C5 n) (ll:=[JY.e n]) (js:=aeG n) (hT:=⟨.nil,K5 n,.nil,(.cc (Ta n) .nil),(.cc .nil)⟩)
def fU (n:Nat)(a0:θ):M Unit:=sh (nn a0) λx0=>sh (aq .ptr (x0.plus 0)) λ(x1:θ)=>if Option.isNone x1 then sh (nn a0) λx2=>sh (inB x2) λx3=>sh (rV n (some x3)) λx4=>sh (nn x4) λx5=>sh (atB Cp 2 x5) λx6=>sh (nn a0) λx7=>sh (bh (x7.plus 0) [.pointer (some x6)]) λx8=>AI () else sh (nn a0) λx2=>sh (aq .ptr (x2.plus 0)) λ(x3:θ)=>sh (ZB x3 a0) λx4=>if !x4 then AS else AI ()
abbrev acM (n:Nat):dv:=⟨56,[BZ],[],λx=>fU n x⟩
theorem uJ (n:Nat):aK TZp (acM n):=bw Tryz.f56 (C5 n) (hT:=.m1 (K5 n))
def qg (G:Sl->Addr->Int->Sl->Int->Int->M Sl)(n:Nat)(a0:Sl)(a1:Addr)(a2:Int)(a3:Sl)(a4 a5:Int):M Sl:=if decide (a5<a4) then sh (ar a3 a5 5) λx0=>sh (aE [li,.str,.bool,.sl,.sl] x0) λ(x1:Int×ζ×Bool×Sl×Sl)=>sh (aF none aA [vi 0,.string (ofBytes []),.bool false,aO,aO]) λx2=>sh (bh (al x2) [vi x1.1,.string x1.2.1,.bool x1.2.2.1,aI x1.2.2.2.1,aI x1.2.2.2.2]) λx3=>sh (aq .sl ((al x2).plus 3)) λ(x4:Sl)=>sh (aq .sl ((al x2).plus 4)) λ(x5:Sl)=>sh (k8 [some ((al x2).plus 4)] (qu n x4 a2)) λx6=>sh (qu n x5 a2) λx7=>sh (bh ((al x2).plus 3) [aI x6]) λx8=>sh (bh ((al x2).plus 4) [aI x7]) λx9=>sh (aE [li,.str,.bool,.sl,.sl] (al x2)) λ(fD:Int×ζ×Bool×Sl×Sl)=>sh (app false a0 5 aA 1 [vi fD.1,.string fD.2.1,.bool fD.2.2.1,aI fD.2.2.2.1,aI fD.2.2.2.2]) λx11=>G x11 a1 a2 a3 a4 (i64.wrap (a5+1)) else AI a0
def mX:Nat->Sl->Addr->Int->Sl->Int->Int->M Sl|0=>λ_ _ _ _ _ _=>AS|n+1=>qg (mX n) n
def nZ (n:Nat)(a0:Sl)(a1:Sl×Int):M (Sl×Int):=sh (aF none aj [aI a1.1,vi a1.2]) λx0=>sh (aq .sl ((al x0).plus 0)) λ(x1:Sl)=>sh (mX n a0 (al x0) (a0.len:Int) x1 (x1.len:Int) 0) λx2=>sh (aq li ((al x0).plus 1)) λ(x3:Int)=>AI (x2,i64.wrap (x3+(a0.len:Int)))
abbrev acN (n:Nat):dv:=⟨19,[cw,.agg [.sl,.int .i64]],[cw,aw],υ2 (nZ n)⟩
abbrev JZ:L1:=⟨[0,1,0,1,1],[(0,cw),(3,aB),(6,aw),(12,cw),(13,aw),(14,aw)],[(0,cw)],[0,8]++List.range' 14 19,0,λn=>υ6 (mX n)⟩
def WW (i:Nat):Option (List (Nat×η)):=Κ i 5 (Ω [0,2,4,6,1,5]++[(3,[5])]++Ω [8,7,9,10,11]) (Κ i 8 (Ω [0,1,3,5,2,4,6]) none)
theorem Tb (n:Nat):lA TZp Tryz.f19 (JZ.e n) JZ.ws:=L1.ok Tryz.f19 JZ n C5 (dr:=WW) (hT:=λm _=>.m1 (K5 m))
theorem Cs (n:Nat):aK TZp (acN n):=bw Tryz.f19 (C5 n) (ll:=[JZ.e n]) (dr:=WW) (hT:=⟨.nil,K5 n,.nil,(.cc (Tb n) .nil),.nil⟩)
def sk (G:Sl->Int->Int->M (Unit⊕Bool))(n:Nat)(a0:Sl)(a1 a2:Int):M (Unit⊕Bool):=if decide (a2<a1) then sh (ar a0 a2 1) λx0=>sh (aq li x0) λ(x1:Int)=>if decide (1<x1) then AI (Sum.inr true) else G a0 a1 (i64.wrap (a2+1)) else AI (Sum.inl ())
def o7:Nat->Sl->Int->Int->M (Unit⊕Bool)|0=>λ_ _ _=>AS|n+1=>sk (o7 n) n
def vc (n:Nat)(a0:Sl×Int):M Bool:=sh (aF none aj [aI a0.1,vi a0.2]) λx0=>sh (aE [.sl,li] (al x0)) λ(x1:Sl×Int)=>sh (oQ n (x1.1,x1.2)) λx2=>sh (o7 n x2 (x2.len:Int) 0) (cz (λx3=>AI false) (λx3=>AI x3))
abbrev acO (n:Nat):dv:=⟨22,[.agg [.sl,.int .i64]],[lS],λx=>vc n x⟩
abbrev J3:L2:=⟨[0,1,0,1],[(6,cw),(7,aw),(8,aw)],[],[(2,lS)],[2,4]++List.range' 8 7,0,.ret,λn=>υ3 (o7 n)⟩
theorem Tc (n:Nat):lA TZp Tryz.f22 (J3.e n) J3.ws:=L2.ok Tryz.f22 J3 n C5 (hT:=λm _=>.m1 (K5 m))
theorem ES (n:Nat):aK TZp (acO n):=bw Tryz.f22 (C5 n) (ll:=[J3.e n]) (hT:=⟨.nil,K5 n,.nil,(.cc (Tc n) .nil),.nil⟩)
abbrev C6 (n:Nat):List dv:=acF n::WE n::WG n::WH n::WI n::WJ n::WK n::WL n::WM n::WN n::WO n::WQ n::WR n::acG n::acH n::acI n::acJ n::acK n::WV n::acL n::acM n::acN n::acO n::C5 n
theorem K6 (n:Nat):eE TZp (C6 n):=.cons (EO n) (.cons (AG n) (.cons (Np n) (.cons (Nq n) (.cons (zJ n) (.cons (GH n) (.cons (Dw n) (.cons (Nr n) (.cons (EP n) (.cons (yV n) (.cons (pI n) (.cons (ER n) (.cons (GI n) (.cons (GJ n) (.cons (AL n) (.cons (JW n) (.cons (vT n) (.cons (Dx n) (.cons (yW n) (.cons (va n) (.cons (uJ n) (.cons (Cs n) (.cons (ES n) (K5 n)))))))))))))))))))))))
def nA (n:Nat)(a0:ζ):M Bool:=sh (mU n a0) λx0=>sh (aF none aJ [.bool false,aO]) λx1=>sh (bh (al x1) [.bool x0.1.1,aI x0.1.2]) λx2=>AI x0.2
abbrev acP (n:Nat):dv:=⟨63,[qG],[lS],λx=>nA n x⟩
theorem Dy (n:Nat):aK TZp (acP n):=bw Tryz.f63 (C6 n) (hT:=.m1 (K6 n))
def lu (n:Nat)(a0:Bool×Sl×Int):M ζ:=sh (aF none bW [.bool a0.1,aI a0.2.1,vi a0.2.2]) λx0=>sh (aE [.bool,.sl,li] (al x0)) λ(x1:Bool×Sl×Int)=>sh (aq li ((al x0).plus 2)) λ(x2:Int)=>sh (k8 [some ((al x0).plus 2)] (lj n (x1.1,x1.2.1,x1.2.2))) λx3=>sh (nN x3 (ofBytes [101])) λx4=>sh (strconv_Itoa n x2) λx5=>sh (nN x4 x5) λx6=>AI x6
abbrev WX (n:Nat):dv:=⟨113,[.agg [.bool,.sl,.int .i64]],[qG],λx=>lu n x⟩
def aaP (i:Nat):Option (List (Nat×η)):=Κ i 1 (Ω [3,0,4]++[(1,[4])]++Ω [2,5,6,7]) none
theorem AM (n:Nat):aK TZp (WX n):=bw Tryz.f113 (C6 n) (dr:=aaP) (hT:=.m1 (K6 n))
def strings_Cut (n:Nat)(a0 a1:ζ):M (ζ×ζ×Bool):=sh (mV n a0 a1) λx0=>AI (x0.1,x0.2.1,x0.2.2)
abbrev WY (n:Nat):dv:=⟨117,[qG,qG],[qG,qG,lS],υ2 (strings_Cut n)⟩
theorem GK (n:Nat):aK TZp (WY n):=bw Tryz.f117 (C6 n) (hT:=.m1 (K6 n))
def tI (n a0:Nat)(a1:Int):M Bool:=if decide (a1=0) then sh (vS n a0) λx0=>AI (ZA x0 9218868437227405311) else if decide (a1<0) then AI (ZA (ad8 a0) 9218868437227405311) else AI (ZA a0 9218868437227405311)
abbrev WZ (n:Nat):dv:=⟨149,[.one (.f64),aw],[lS],υ2 (tI n)⟩
theorem HR (n:Nat):aK TZp (WZ n):=bw Tryz.f149 (C6 n) (hT:=.m1 (K6 n))
def pM (n a0:Nat):M (Nat×Int):=sh (vS n a0) λx0=>if ZM x0 4503599627370496 then sh (Ex a0 4841369599423283200) λx1=>AI (x1,-52) else AI (a0,0)
abbrev W1 (n:Nat):dv:=⟨176,[.one (.f64)],[.one (.f64),aw],λx=>pM n x⟩
theorem Ct (n:Nat):aK TZp (W1 n):=bw Tryz.f176 (C6 n) (hT:=.m1 (K6 n))
def mi (n:Nat)(a0 a1:Int):M (Int×Int):=sh (bN n a0) λx0=>sh (px (decide (0<=x0))) λx1=>AI (a0.fdiv (2^min (Int.toNat x0) 64),i64.wrap (i64.wrap (a1-1075)+x0))
def sq (n a0:Nat):M (Int×Int):=sh (vS n a0) λx0=>sh (ep n x0) λx1=>sh (px (decide (0<=52))) λx2=>if decide (i64.wrap (Int.fdiv x1 (2^52))=0) then mi n (IntKind.u64.wrap (↑(BitVec.ofInt 64 x1&&&BitVec.ofInt 64 4503599627370495).toNat:Int)) 1 else mi n (IntKind.u64.wrap (↑(BitVec.ofInt 64 (IntKind.u64.wrap (↑(BitVec.ofInt 64 x1&&&BitVec.ofInt 64 4503599627370495).toNat:Int))|||BitVec.ofInt 64 4503599627370496).toNat:Int)) (i64.wrap (Int.fdiv x1 (2^52)))
abbrev W4 (n:Nat):dv:=⟨150,[.one (.f64)],[.one (.int .u64),aw],λx=>sq n x⟩
abbrev aaQ (n:Nat):List (jm (Int×Int)):=[⟨[0,1,1,1,1],[.code [1,1,1,1,1]],[(5,.one (.int .u64)),(6,aw)],υ2 (mi n)⟩]
theorem ET (n:Nat):aK TZp (W4 n):=bw Tryz.f150 (C6 n) (js:=aaQ n) (hT:=⟨.nil,K6 n,.nil,.nil,(.cc .nil)⟩)
def n7 (n:Nat)(x:ξ)(a0:Sl)(a1 a2:Int):M Bool:=if qo eg x then sh (k7 [aB,aB,aB] x) λ(c:Addr×Addr×Addr)=>eA n a0 a1 a2 c.1 c.2.1 c.2.2 else AS
def n8 (n:Nat)(x:ξ)(a0:Sl)(a1 a2:Int):M Bool:=if qo eg x then sh (k7 [aB,aB,aB] x) λ(c:Addr×Addr×Addr)=>eA n a0 a1 a2 c.1 c.2.1 c.2.2 else AS
def mY (n:Nat)(x:ξ)(a0:Sl)(a1 a2:Int):M Bool:=if qo eg x then sh (k7 [aB,aB,aB] x) λ(c:Addr×Addr×Addr)=>eA n a0 a1 a2 c.1 c.2.1 c.2.2 else AS
def iF (G:Addr->Addr->Addr->Addr->ξ->Int->M Unit)(n:Nat)(a0 a1 a2 a3:Addr)(a4:ξ)(a5:Int):M Unit:=if decide (a5<9) then sh (aq li (a2.plus 9)) λ(x0:Int)=>sh (bh (a2.plus 9) [vi (i64.wrap (x0*10))]) λx1=>G a0 a1 a2 a3 a4 (i64.wrap (a5+1)) else AI ()
def iV:Nat->Addr->Addr->Addr->Addr->ξ->Int->M Unit|0=>λ_ _ _ _ _ _=>AS|n+1=>iF (iV n) n
def mZ (G:Addr->Addr->Addr->Addr->ξ->Int->M Int)(n:Nat)(a0 a1 a2 a3:Addr)(a4:ξ)(a5:Int):M Int:=sh (aq li (a2.plus 9)) λ(x0:Int)=>sh (aq .str a0) λ(x1:ζ)=>sh (aq li a3) λ(x2:Int)=>sh (oL x1 x2) λx3=>sh (bh (a2.plus 9) [vi (i64.wrap (i64.wrap (10*x0)+i64.wrap (IntKind.u8.wrap ((x3.toNat:Int)-48))))]) λx4=>sh (aq li a3) λ(x5:Int)=>sh (bh a3 [vi (i64.wrap (x5+1))]) λx6=>G a0 a1 a2 a3 a4 (i64.wrap (a5+1))
def iG (G:Addr->Addr->Addr->Addr->ξ->Int->M Int)(n:Nat)(a0 a1 a2 a3:Addr)(a4:ξ)(a5:Int):M Int:=if decide (a5<9) then sh (aq li a3) λ(x0:Int)=>sh (aq .str a0) λ(x1:ζ)=>if decide (x0<(↑(ByteArray.size x1):Int)) then sh (aq .str a0) λ(x2:ζ)=>sh (aq li a3) λ(x3:Int)=>sh (oL x2 x3) λx4=>if decide (48<=(x4.toNat:Int)) then sh (aq .str a0) λ(x5:ζ)=>sh (aq li a3) λ(x6:Int)=>sh (oL x5 x6) λx7=>if decide ((x7.toNat:Int)<=57) then mZ G n a0 a1 a2 a3 a4 a5 else AI a5 else AI a5 else AI a5 else AI a5
def gD:Nat->Addr->Addr->Addr->Addr->ξ->Int->M Int|0=>λ_ _ _ _ _ _=>AS|n+1=>iG (gD n) n
def BB (n:Nat):=mZ (gD n) n
def mj (n:Nat)(a0 a1 a2 a3:Addr)(a4:ξ):M ((J11)×Bool):=sh (aq .str a0) λ(x0:ζ)=>sh (aq li a3) λ(x1:Int)=>sh (oL x0 x1) λx2=>sh (bh (a2.plus 10) [.int IntKind.u8 (x2.toNat:Int)]) λx3=>sh (aq li a3) λ(x4:Int)=>sh (bh a3 [vi (i64.wrap (x4+1))]) λx5=>sh (aq (.int IntKind.u8) (a2.plus 10)) λ(x6:Int)=>if decide (x6=90) then sh (aE [li,li,li,li,li,li,li,li,li,li,.int IntKind.u8] a2) λ(x7:J11)=>sh (aq li a3) λ(x8:Int)=>sh (aq .str a0) λ(x9:ζ)=>sh (k8 [some a3,some a0] (bh a1 [vi x7.1,vi x7.2.1,vi x7.2.2.1,vi x7.2.2.2.1,vi x7.2.2.2.2.1,vi x7.2.2.2.2.2.1,vi x7.2.2.2.2.2.2.1,vi x7.2.2.2.2.2.2.2.1,vi x7.2.2.2.2.2.2.2.2.1,vi x7.2.2.2.2.2.2.2.2.2.1,.int IntKind.u8 x7.2.2.2.2.2.2.2.2.2.2])) λfD=>sh (aE [li,li,li,li,li,li,li,li,li,li,.int IntKind.u8] a1) λ(x11:J11)=>AI ((x11.1,x11.2.1,x11.2.2.1,x11.2.2.2.1,x11.2.2.2.2.1,x11.2.2.2.2.2.1,x11.2.2.2.2.2.2.1,x11.2.2.2.2.2.2.2.1,x11.2.2.2.2.2.2.2.2.1,x11.2.2.2.2.2.2.2.2.2.1,x11.2.2.2.2.2.2.2.2.2.2),decide (x8=(↑(ByteArray.size x9):Int))) else sh (aq (.int IntKind.u8) (a2.plus 10)) λ(x7:Int)=>if !decide (x7=43) then sh (aq (.int IntKind.u8) (a2.plus 10)) λ(x8:Int)=>if !decide (x8=45) then sh (aE [li,li,li,li,li,li,li,li,li,li,.int IntKind.u8] a2) λ(x9:J11)=>sh (bh a1 [vi x9.1,vi x9.2.1,vi x9.2.2.1,vi x9.2.2.2.1,vi x9.2.2.2.2.1,vi x9.2.2.2.2.2.1,vi x9.2.2.2.2.2.2.1,vi x9.2.2.2.2.2.2.2.1,vi x9.2.2.2.2.2.2.2.2.1,vi x9.2.2.2.2.2.2.2.2.2.1,.int IntKind.u8 x9.2.2.2.2.2.2.2.2.2.2]) λfD=>sh (aE [li,li,li,li,li,li,li,li,li,li,.int IntKind.u8] a1) λ(x11:J11)=>AI ((x11.1,x11.2.1,x11.2.2.1,x11.2.2.2.1,x11.2.2.2.2.1,x11.2.2.2.2.2.1,x11.2.2.2.2.2.2.1,x11.2.2.2.2.2.2.2.1,x11.2.2.2.2.2.2.2.2.1,x11.2.2.2.2.2.2.2.2.2.1,x11.2.2.2.2.2.2.2.2.2.2),false) else sh (nM (a2.plus 1) 8 6 8 1) λx9=>sh (mY n a4 x9 2 58) λfD=>if !fD then sh (aE [li,li,li,li,li,li,li,li,li,li,.int IntKind.u8] a2) λ(x11:J11)=>sh (bh a1 [vi x11.1,vi x11.2.1,vi x11.2.2.1,vi x11.2.2.2.1,vi x11.2.2.2.2.1,vi x11.2.2.2.2.2.1,vi x11.2.2.2.2.2.2.1,vi x11.2.2.2.2.2.2.2.1,vi x11.2.2.2.2.2.2.2.2.1,vi x11.2.2.2.2.2.2.2.2.2.1,.int IntKind.u8 x11.2.2.2.2.2.2.2.2.2.2]) λx12=>sh (aE [li,li,li,li,li,li,li,li,li,li,.int IntKind.u8] a1) λ(x13:J11)=>AI ((x13.1,x13.2.1,x13.2.2.1,x13.2.2.2.1,x13.2.2.2.2.1,x13.2.2.2.2.2.1,x13.2.2.2.2.2.2.1,x13.2.2.2.2.2.2.2.1,x13.2.2.2.2.2.2.2.2.1,x13.2.2.2.2.2.2.2.2.2.1,x13.2.2.2.2.2.2.2.2.2.2),false) else sh (aE [li,li,li,li,li,li,li,li,li,li,.int IntKind.u8] a2) λ(x11:J11)=>sh (aq li a3) λ(x12:Int)=>sh (aq .str a0) λ(x13:ζ)=>sh (k8 [some a3,some a0] (bh a1 [vi x11.1,vi x11.2.1,vi x11.2.2.1,vi x11.2.2.2.1,vi x11.2.2.2.2.1,vi x11.2.2.2.2.2.1,vi x11.2.2.2.2.2.2.1,vi x11.2.2.2.2.2.2.2.1,vi x11.2.2.2.2.2.2.2.2.1,vi x11.2.2.2.2.2.2.2.2.2.1,.int IntKind.u8 x11.2.2.2.2.2.2.2.2.2.2])) λjj=>sh (aE [li,li,li,li,li,li,li,li,li,li,.int IntKind.u8] a1) λ(x15:J11)=>AI ((x15.1,x15.2.1,x15.2.2.1,x15.2.2.2.1,x15.2.2.2.2.1,x15.2.2.2.2.2.1,x15.2.2.2.2.2.2.1,x15.2.2.2.2.2.2.2.1,x15.2.2.2.2.2.2.2.2.1,x15.2.2.2.2.2.2.2.2.2.1,x15.2.2.2.2.2.2.2.2.2.2),decide (x12=(↑(ByteArray.size x13):Int))) else sh (nM (a2.plus 1) 8 6 8 1) λx8=>sh (mY n a4 x8 2 58) λx9=>if !x9 then sh (aE [li,li,li,li,li,li,li,li,li,li,.int IntKind.u8] a2) λ(fD:J11)=>sh (bh a1 [vi fD.1,vi fD.2.1,vi fD.2.2.1,vi fD.2.2.2.1,vi fD.2.2.2.2.1,vi fD.2.2.2.2.2.1,vi fD.2.2.2.2.2.2.1,vi fD.2.2.2.2.2.2.2.1,vi fD.2.2.2.2.2.2.2.2.1,vi fD.2.2.2.2.2.2.2.2.2.1,.int IntKind.u8 fD.2.2.2.2.2.2.2.2.2.2]) λx11=>sh (aE [li,li,li,li,li,li,li,li,li,li,.int IntKind.u8] a1) λ(x12:J11)=>AI ((x12.1,x12.2.1,x12.2.2.1,x12.2.2.2.1,x12.2.2.2.2.1,x12.2.2.2.2.2.1,x12.2.2.2.2.2.2.1,x12.2.2.2.2.2.2.2.1,x12.2.2.2.2.2.2.2.2.1,x12.2.2.2.2.2.2.2.2.2.1,x12.2.2.2.2.2.2.2.2.2.2),false) else sh (aE [li,li,li,li,li,li,li,li,li,li,.int IntKind.u8] a2) λ(fD:J11)=>sh (aq li a3) λ(x11:Int)=>sh (aq .str a0) λ(x12:ζ)=>sh (k8 [some a3,some a0] (bh a1 [vi fD.1,vi fD.2.1,vi fD.2.2.1,vi fD.2.2.2.1,vi fD.2.2.2.2.1,vi fD.2.2.2.2.2.1,vi fD.2.2.2.2.2.2.1,vi fD.2.2.2.2.2.2.2.1,vi fD.2.2.2.2.2.2.2.2.1,vi fD.2.2.2.2.2.2.2.2.2.1,.int IntKind.u8 fD.2.2.2.2.2.2.2.2.2.2])) λx13=>sh (aE [li,li,li,li,li,li,li,li,li,li,.int IntKind.u8] a1) λ(jj:J11)=>AI ((jj.1,jj.2.1,jj.2.2.1,jj.2.2.2.1,jj.2.2.2.2.1,jj.2.2.2.2.2.1,jj.2.2.2.2.2.2.1,jj.2.2.2.2.2.2.2.1,jj.2.2.2.2.2.2.2.2.1,jj.2.2.2.2.2.2.2.2.2.1,jj.2.2.2.2.2.2.2.2.2.2),decide (x11=(↑(ByteArray.size x12):Int)))
def iW (n:Nat)(a0 a1 a2 a3:Addr)(a4:ξ):M ((J11)×Bool):=sh (aq li a3) λ(x0:Int)=>sh (aq .str a0) λ(x1:ζ)=>if decide (x0<(↑(ByteArray.size x1):Int)) then sh (aq li (a2.plus 0)) λ(x2:Int)=>if decide (x2=3) then mj n a0 a1 a2 a3 a4 else sh (aE [li,li,li,li,li,li,li,li,li,li,.int IntKind.u8] a2) λ(x3:J11)=>sh (aq li a3) λ(x4:Int)=>sh (aq .str a0) λ(x5:ζ)=>sh (k8 [some a3,some a0] (bh a1 [vi x3.1,vi x3.2.1,vi x3.2.2.1,vi x3.2.2.2.1,vi x3.2.2.2.2.1,vi x3.2.2.2.2.2.1,vi x3.2.2.2.2.2.2.1,vi x3.2.2.2.2.2.2.2.1,vi x3.2.2.2.2.2.2.2.2.1,vi x3.2.2.2.2.2.2.2.2.2.1,.int IntKind.u8 x3.2.2.2.2.2.2.2.2.2.2])) λx6=>sh (aE [li,li,li,li,li,li,li,li,li,li,.int IntKind.u8] a1) λ(x7:J11)=>AI ((x7.1,x7.2.1,x7.2.2.1,x7.2.2.2.1,x7.2.2.2.2.1,x7.2.2.2.2.2.1,x7.2.2.2.2.2.2.1,x7.2.2.2.2.2.2.2.1,x7.2.2.2.2.2.2.2.2.1,x7.2.2.2.2.2.2.2.2.2.1,x7.2.2.2.2.2.2.2.2.2.2),decide (x4=(↑(ByteArray.size x5):Int))) else sh (aE [li,li,li,li,li,li,li,li,li,li,.int IntKind.u8] a2) λ(x2:J11)=>sh (aq li a3) λ(x3:Int)=>sh (aq .str a0) λ(x4:ζ)=>sh (k8 [some a3,some a0] (bh a1 [vi x2.1,vi x2.2.1,vi x2.2.2.1,vi x2.2.2.2.1,vi x2.2.2.2.2.1,vi x2.2.2.2.2.2.1,vi x2.2.2.2.2.2.2.1,vi x2.2.2.2.2.2.2.2.1,vi x2.2.2.2.2.2.2.2.2.1,vi x2.2.2.2.2.2.2.2.2.2.1,.int IntKind.u8 x2.2.2.2.2.2.2.2.2.2.2])) λx5=>sh (aE [li,li,li,li,li,li,li,li,li,li,.int IntKind.u8] a1) λ(x6:J11)=>AI ((x6.1,x6.2.1,x6.2.2.1,x6.2.2.2.1,x6.2.2.2.2.1,x6.2.2.2.2.2.1,x6.2.2.2.2.2.2.1,x6.2.2.2.2.2.2.2.1,x6.2.2.2.2.2.2.2.2.1,x6.2.2.2.2.2.2.2.2.2.1,x6.2.2.2.2.2.2.2.2.2.2),decide (x3=(↑(ByteArray.size x4):Int)))
def ml (n:Nat)(a0 a1 a2 a3:Addr)(a4:ξ):M ((J11)×Bool):=sh (aq li a3) λ(x0:Int)=>sh (bh a3 [vi (i64.wrap (x0+1))]) λx1=>sh (gD n a0 a1 a2 a3 a4 0) λx2=>if decide (x2=0) then sh (aE [li,li,li,li,li,li,li,li,li,li,.int IntKind.u8] a2) λ(x3:J11)=>sh (bh a1 [vi x3.1,vi x3.2.1,vi x3.2.2.1,vi x3.2.2.2.1,vi x3.2.2.2.2.1,vi x3.2.2.2.2.2.1,vi x3.2.2.2.2.2.2.1,vi x3.2.2.2.2.2.2.2.1,vi x3.2.2.2.2.2.2.2.2.1,vi x3.2.2.2.2.2.2.2.2.2.1,.int IntKind.u8 x3.2.2.2.2.2.2.2.2.2.2]) λx4=>sh (aE [li,li,li,li,li,li,li,li,li,li,.int IntKind.u8] a1) λ(x5:J11)=>AI ((x5.1,x5.2.1,x5.2.2.1,x5.2.2.2.1,x5.2.2.2.2.1,x5.2.2.2.2.2.1,x5.2.2.2.2.2.2.1,x5.2.2.2.2.2.2.2.1,x5.2.2.2.2.2.2.2.2.1,x5.2.2.2.2.2.2.2.2.2.1,x5.2.2.2.2.2.2.2.2.2.2),false) else sh (iV n a0 a1 a2 a3 a4 x2) λx3=>iW n a0 a1 a2 a3 a4
def eU (n:Nat)(a0 a1 a2 a3:Addr)(a4:ξ):M ((J11)×Bool):=sh (nM (a2.plus 1) 8 3 6 1) λx0=>sh (n8 n a4 x0 2 58) λx1=>if !x1 then sh (aE [li,li,li,li,li,li,li,li,li,li,.int IntKind.u8] a2) λ(x2:J11)=>sh (bh a1 [vi x2.1,vi x2.2.1,vi x2.2.2.1,vi x2.2.2.2.1,vi x2.2.2.2.2.1,vi x2.2.2.2.2.2.1,vi x2.2.2.2.2.2.2.1,vi x2.2.2.2.2.2.2.2.1,vi x2.2.2.2.2.2.2.2.2.1,vi x2.2.2.2.2.2.2.2.2.2.1,.int IntKind.u8 x2.2.2.2.2.2.2.2.2.2.2]) λx3=>sh (aE [li,li,li,li,li,li,li,li,li,li,.int IntKind.u8] a1) λ(x4:J11)=>AI ((x4.1,x4.2.1,x4.2.2.1,x4.2.2.2.1,x4.2.2.2.2.1,x4.2.2.2.2.2.1,x4.2.2.2.2.2.2.1,x4.2.2.2.2.2.2.2.1,x4.2.2.2.2.2.2.2.2.1,x4.2.2.2.2.2.2.2.2.2.1,x4.2.2.2.2.2.2.2.2.2.2),false) else sh (aq li (a2.plus 0)) λ(x2:Int)=>sh (bh (a2.plus 0) [vi (i64.wrap (x2+2))]) λx3=>sh (aq li a3) λ(x4:Int)=>sh (aq .str a0) λ(x5:ζ)=>if decide (x4<(↑(ByteArray.size x5):Int)) then sh (aq .str a0) λ(x6:ζ)=>sh (aq li a3) λ(x7:Int)=>sh (oL x6 x7) λx8=>if decide ((x8.toNat:Int)=46) then ml n a0 a1 a2 a3 a4 else iW n a0 a1 a2 a3 a4 else iW n a0 a1 a2 a3 a4
def ko (n:Nat)(a0 a1 a2 a3:Addr)(a4:ξ):M ((J11)×Bool):=sh (nM (a2.plus 1) 8 0 3 1) λx0=>sh (n7 n a4 x0 4 45) λx1=>if !x1 then sh (aE [li,li,li,li,li,li,li,li,li,li,.int IntKind.u8] a2) λ(x2:J11)=>sh (bh a1 [vi x2.1,vi x2.2.1,vi x2.2.2.1,vi x2.2.2.2.1,vi x2.2.2.2.2.1,vi x2.2.2.2.2.2.1,vi x2.2.2.2.2.2.2.1,vi x2.2.2.2.2.2.2.2.1,vi x2.2.2.2.2.2.2.2.2.1,vi x2.2.2.2.2.2.2.2.2.2.1,.int IntKind.u8 x2.2.2.2.2.2.2.2.2.2.2]) λx3=>sh (aE [li,li,li,li,li,li,li,li,li,li,.int IntKind.u8] a1) λ(x4:J11)=>AI ((x4.1,x4.2.1,x4.2.2.1,x4.2.2.2.1,x4.2.2.2.2.1,x4.2.2.2.2.2.1,x4.2.2.2.2.2.2.1,x4.2.2.2.2.2.2.2.1,x4.2.2.2.2.2.2.2.2.1,x4.2.2.2.2.2.2.2.2.2.1,x4.2.2.2.2.2.2.2.2.2.2),false) else sh (bh (a2.plus 0) [vi 1]) λx2=>sh (aq li a3) λ(x3:Int)=>sh (aq .str a0) λ(x4:ζ)=>if decide (x3=(↑(ByteArray.size x4):Int)) then sh (aE [li,li,li,li,li,li,li,li,li,li,.int IntKind.u8] a2) λ(x5:J11)=>sh (bh a1 [vi x5.1,vi x5.2.1,vi x5.2.2.1,vi x5.2.2.2.1,vi x5.2.2.2.2.1,vi x5.2.2.2.2.2.1,vi x5.2.2.2.2.2.2.1,vi x5.2.2.2.2.2.2.2.1,vi x5.2.2.2.2.2.2.2.2.1,vi x5.2.2.2.2.2.2.2.2.2.1,.int IntKind.u8 x5.2.2.2.2.2.2.2.2.2.2]) λx6=>sh (aE [li,li,li,li,li,li,li,li,li,li,.int IntKind.u8] a1) λ(x7:J11)=>AI ((x7.1,x7.2.1,x7.2.2.1,x7.2.2.2.1,x7.2.2.2.2.1,x7.2.2.2.2.2.1,x7.2.2.2.2.2.2.1,x7.2.2.2.2.2.2.2.1,x7.2.2.2.2.2.2.2.2.1,x7.2.2.2.2.2.2.2.2.2.1,x7.2.2.2.2.2.2.2.2.2.2),true) else sh (aq .str a0) λ(x5:ζ)=>sh (aq li a3) λ(x6:Int)=>sh (oL x5 x6) λx7=>if !decide ((x7.toNat:Int)=84) then sh (aq .str a0) λ(x8:ζ)=>sh (aq li a3) λ(x9:Int)=>sh (oL x8 x9) λfD=>if !decide ((fD.toNat:Int)=32) then sh (aE [li,li,li,li,li,li,li,li,li,li,.int IntKind.u8] a2) λ(x11:J11)=>sh (bh a1 [vi x11.1,vi x11.2.1,vi x11.2.2.1,vi x11.2.2.2.1,vi x11.2.2.2.2.1,vi x11.2.2.2.2.2.1,vi x11.2.2.2.2.2.2.1,vi x11.2.2.2.2.2.2.2.1,vi x11.2.2.2.2.2.2.2.2.1,vi x11.2.2.2.2.2.2.2.2.2.1,.int IntKind.u8 x11.2.2.2.2.2.2.2.2.2.2]) λx12=>sh (aE [li,li,li,li,li,li,li,li,li,li,.int IntKind.u8] a1) λ(x13:J11)=>AI ((x13.1,x13.2.1,x13.2.2.1,x13.2.2.2.1,x13.2.2.2.2.1,x13.2.2.2.2.2.1,x13.2.2.2.2.2.2.1,x13.2.2.2.2.2.2.2.1,x13.2.2.2.2.2.2.2.2.1,x13.2.2.2.2.2.2.2.2.2.1,x13.2.2.2.2.2.2.2.2.2.2),false) else sh (aq li a3) λ(x11:Int)=>sh (bh a3 [vi (i64.wrap (x11+1))]) λx12=>eU n a0 a1 a2 a3 a4 else sh (aq li a3) λ(x8:Int)=>sh (bh a3 [vi (i64.wrap (x8+1))]) λx9=>eU n a0 a1 a2 a3 a4
def kQ (n:Nat)(a0:ζ):M ((J11)×Bool):=sh (aF none Ng [.string a0]) λx0=>sh (aF none bQ [vi 0,vi 0,vi 0,vi 0,vi 0,vi 0,vi 0,vi 0,vi 0,vi 0,.int IntKind.u8 0]) λx1=>sh (aF none bQ [vi 0,vi 0,vi 0,vi 0,vi 0,vi 0,vi 0,vi 0,vi 0,vi 0,.int IntKind.u8 0]) λx2=>sh (aF none an [vi 0]) λx3=>sh (bh (al x3) [vi 0]) λx4=>sh (aF none vL [Value.nilFunc]) λx5=>sh (bh (al x5) [.func (Fn.func pZ) #[] #[.pointer (some (al x3)),.pointer (some (al x0))]]) λx6=>sh (aq .str (al x0)) λ(x7:ζ)=>if decide (2<(↑(ByteArray.size x7):Int)) then sh (aq .str (al x0)) λ(x8:ζ)=>sh (oL x8 2) λx9=>if !decide ((x9.toNat:Int)=58) then ko n (al x0) (al x1) (al x2) (al x3) (Value.func (Fn.func eg) #[] #[.pointer (some (al x3)),.pointer (some (al x0)),.pointer (some (al x5))]) else eU n (al x0) (al x1) (al x2) (al x3) (Value.func (Fn.func eg) #[] #[.pointer (some (al x3)),.pointer (some (al x0)),.pointer (some (al x5))]) else eU n (al x0) (al x1) (al x2) (al x3) (Value.func (Fn.func eg) #[] #[.pointer (some (al x3)),.pointer (some (al x0)),.pointer (some (al x5))])
abbrev acQ (n:Nat):dv:=⟨93,[qG],[.agg [.int .i64,.int .i64,.int .i64,.int .i64,.int .i64,.int .i64,.int .i64,.int .i64,.int .i64,.int .i64,.int .u8],lS],λx=>kQ n x⟩
abbrev J4:L1:=⟨[0,0,1,1,0,1,0,1,1,1,1,1,1,1,1],[(1,aB),(2,aB),(4,aB),(5,aB),(7,th),(8,aw)],[(8,aw)],[8]++List.range' 66 34,0,λn=>υ6 (gD n)⟩
abbrev J5:L1:=⟨[0,1,1,1,1,0,1,0,1,1,1,1,1,1,1,1],[(1,aB),(2,aB),(4,aB),(5,aB),(7,th),(8,aw)],[],[8]++List.range' 103 8,2,λn=>υ6 (iV n)⟩
abbrev J6 (n:Nat):List oZ:=[⟨19,[cw,aw,.one (.int .u8)],[lS],λx a=>n7 n x a.1 a.2.1 a.2.2⟩, ⟨44,[cw,aw,.one (.int .u8)],[lS],λx a=>n8 n x a.1 a.2.1 a.2.2⟩, ⟨143,[cw,aw,.one (.int .u8)],[lS],λx a=>mY n x a.1 a.2.1 a.2.2⟩]
def Ps (i:Nat):Option (List (Nat×η)):=Κ i 21 (Ω [0,1,2,3,4,5,6,7,8,9,10]) (Κ i 33 (Ω [0,1,2,3,4]++[(5,[1,2])]++Ω [6]) (Κ i 36 (Ω [0,1,2,3,4]++[(5,[1,2])]++Ω [6]) none))
abbrev Td (n:Nat):List (jm Int):=[⟨[0,0,1,0,0,0,1,1,0,1,0,1,1,1,1,1,1,1,1],[.code [1,0,1,0,0,0,1,1,0,1,0,1,1,1,1,1,1,1,1],.au 1],[(1,aB),(2,aB),(4,aB),(5,aB),(7,th),(8,aw)],υ6 (BB n)⟩]
abbrev aeH (n:Nat):List (jm ((J11)×Bool)):=[⟨[0,0,0,1,0,1,1,1,1,1],[.code [1,0,0,1,0,1,1,1,1,1],.code [1,0,1,0,1,1,1,1,1],.code [1,1,1,1,1,1]],[(1,aB),(2,aB),(4,aB),(5,aB),(7,th)],υ5 (ko n)⟩, ⟨[0,0,1,1,1,1,1,1],[.code [1,0,1,1,1,1,1,1],.code [1,1,1,1,1,1,1]],[(1,aB),(2,aB),(4,aB),(5,aB),(7,th)],υ5 (eU n)⟩, ⟨[0,0,1,0,1,1,1,1,1,1,1,1],[.code [1,0,1,0,1,1,1,1,1,1,1,1],.code [1,1,1,1,1,1,1,1,1]],[(1,aB),(2,aB),(4,aB),(5,aB),(7,th)],υ5 (ml n)⟩, ⟨[0,0,1,1,1,1,1,1,1,1,1],[.code [1,0,1,1,1,1,1,1,1,1,1],.code [1,1,1,1,1,1,1,1,1,1]],[(1,aB),(2,aB),(4,aB),(5,aB),(7,th)],υ5 (iW n)⟩, ⟨[0,0,1,0,1,1,1,1,1,1,1,1,1],[.code [1,0,1,0,1,1,1,1,1,1,1,1,1],.code [1,1,1,1,1,1,1,1,1,1]],[(1,aB),(2,aB),(4,aB),(5,aB),(7,th)],υ5 (mj n)⟩]
theorem Pt (n:Nat):pK TZp (J6 n):=.cons (cS (l:=[⟨125,[aB,aB,aB],λa c=>eA n a.1 a.2.1 a.2.2 c.1 c.2.1 c.2.2⟩]) (.cons (λa c=>aD (by kernel_rfl) ((pI n) (a.1,a.2.1,a.2.2,c.1,c.2.1,c.2.2))) .nil) (λx a=>by kernel_rfl)) (.cons (cS (l:=[⟨125,[aB,aB,aB],λa c=>eA n a.1 a.2.1 a.2.2 c.1 c.2.1 c.2.2⟩]) (.cons (λa c=>aD (by kernel_rfl) ((pI n) (a.1,a.2.1,a.2.2,c.1,c.2.1,c.2.2))) .nil) (λx a=>by kernel_rfl)) (.cons (cS (l:=[⟨125,[aB,aB,aB],λa c=>eA n a.1 a.2.1 a.2.2 c.1 c.2.1 c.2.2⟩]) (.cons (λa c=>aD (by kernel_rfl) ((pI n) (a.1,a.2.1,a.2.2,c.1,c.2.1,c.2.2))) .nil) (λx a=>by kernel_rfl)) .nil))
theorem Te (n:Nat):lA TZp Tryz.f93 (J5.e n) J5.ws:=L1.ok Tryz.f93 J5 n C6 (dt:=J6) (dr:=Ps) (hT:=λm _=>⟨.nil,K6 m,(Pt m),.nil,.nil⟩)
theorem Tf (n:Nat):lA TZp Tryz.f93 (J4.e n) J4.ws:=L1.ok Tryz.f93 J4 n C6 (dt:=J6) (dr:=Ps) (jt:=Td) (hT:=λm _=>⟨.nil,K6 m,(Pt m),.nil,(.cc .nil)⟩)
theorem EU (n:Nat):aK TZp (acQ n):=bw Tryz.f93 (C6 n) (dl:=J6 n) (ll:=[J4.e n,J5.e n]) (dr:=Ps) (js:=aeH n) (hT:=⟨.nil,K6 n,(Pt n),(.cc (Tf n) (.cc (Te n) .nil)),(.cc (.cc (.cc (.cc (.cc .nil)))))⟩)
def kp (G:Int->Int->Int->Int->M Int)(n:Nat)(a0 a1 a2 a3:Int):M Int:=if decide (a3<a1) then sh (kO n a0 a3) λx0=>G a0 a1 (i64.wrap (a2+x0)) (i64.wrap (a3+1)) else AI a2
def gq:Nat->Int->Int->Int->Int->M Int|0=>λ_ _ _ _=>AS|n+1=>kp (gq n) n
theorem qS (n:Nat):gq (n+1)=kp (gq n) n:=rfl
def uh (n:Nat)(a0 a1 a2:Int):M (Int×Int):=sh (pL n a0) λx0=>sh (gq n a0 a1 (i64.wrap (i64.wrap (i64.wrap (x0+a2)-1)-719528)) 1) λx1=>AI (x1,0)
def tJ (n:Nat)(a0 a1 a2:Int):M (Int×Int):=if decide (a0<0) then AI (0,13) else if decide (9999<a0) then AI (0,13) else if decide (a1<1) then AI (0,13) else if decide (12<a1) then AI (0,13) else if decide (a2<1) then AI (0,13) else sh (kO n a0 a1) λx0=>if decide (x0<a2) then AI (0,13) else uh n a0 a1 a2
abbrev W5 (n:Nat):dv:=⟨126,[aw,aw,aw],[aw,aw],υ3 (tJ n)⟩
abbrev Fy:L1:=⟨[0,1,0,1,1,1],[(0,aw),(1,aw),(8,aw),(9,aw)],[(8,aw)],[8,9]++List.range' 41 10,0,λn=>υ4 (gq n)⟩
abbrev aaR (n:Nat):List (jm (Int×Int)):=[⟨[0,1,1],[.code [1,1,1]],[(0,aw),(1,aw),(2,aw)],υ3 (uh n)⟩]
theorem Pv (n:Nat):lA TZp Tryz.f126 (Fy.e n) Fy.ws:=L1.ok Tryz.f126 Fy n C6 (hT:=λm _=>.m1 (K6 m))
theorem HS (n:Nat):aK TZp (W5 n):=bw Tryz.f126 (C6 n) (ll:=[Fy.e n]) (js:=aaR n) (hT:=⟨.nil,K6 n,.nil,(.cc (Pv n) .nil),(.cc .nil)⟩)
def mr (G:Int->Int->Int->M (Int×Int))(n:Nat)(a0 a1 a2:Int):M (Int×Int):=sh (kO n a1 a2) λx0=>if decide (x0<=a0) then sh (kO n a1 a2) λx1=>G (i64.wrap (a0-x1)) a1 (i64.wrap (a2+1)) else AI (a0,a2)
def ic:Nat->Int->Int->Int->M (Int×Int)|0=>λ_ _ _=>AS|n+1=>mr (ic n) n
theorem vV (n:Nat):ic (n+1)=mr (ic n) n:=rfl
def mu (G:Int->Int->M Int)(n:Nat)(a0 a1:Int):M Int:=sh (pL n (i64.wrap (a1+1))) λx0=>if decide (x0<=a0) then G a0 (i64.wrap (a1+1)) else AI a1
def ie:Nat->Int->Int->M Int|0=>λ_ _=>AS|n+1=>mu (ie n) n
theorem vW (n:Nat):ie (n+1)=mu (ie n) n:=rfl
def qw (n:Nat)(a0:Int):M (Int×Int×Int×Int):=sh (px (decide (366≠0))) λx0=>sh (ie n (i64.wrap (a0+719528)) (i64.wrap ((i64.wrap (a0+719528)).tdiv 366))) λx1=>sh (pL n x1) λx2=>sh (ic n (i64.wrap (i64.wrap (a0+719528)-x2)) x1 1) λx3=>AI (x1,x3.2,i64.wrap (x3.1+1),0)
def vX (n:Nat)(a0:Int):M (Int×Int×Int×Int):=if decide (a0 < -719528) then AI (0,0,0,13) else if decide (2932896<a0) then AI (0,0,0,13) else qw n a0
abbrev W6 (n:Nat):dv:=⟨127,[aw],[aw,aw,aw,aw],λx=>vX n x⟩
abbrev FA:L1:=⟨[0,0,1,1,1,1],[(6,aw),(7,aw)],[(7,aw)],[7]++List.range' 19 7,0,λn=>υ2 (ie n)⟩
abbrev FB:L1:=⟨[0,0,1,1,1,1,1,1,1],[(6,aw),(7,aw),(8,aw)],[(6,aw),(8,aw)],[6,8]++List.range' 30 12,2,λn=>υ3 (ic n)⟩
abbrev aaS (n:Nat):List (jm (Int×Int×Int×Int)):=[⟨[0,1,1],[.code [1,1,1]],[(0,aw)],λx=>qw n x⟩]
theorem Pw (n:Nat):lA TZp Tryz.f127 (FB.e n) FB.ws:=L1.ok Tryz.f127 FB n C6 (hT:=λm _=>.m1 (K6 m))
theorem Px (n:Nat):lA TZp Tryz.f127 (FA.e n) FA.ws:=L1.ok Tryz.f127 FA n C6 (hT:=λm _=>.m1 (K6 m))
theorem HU (n:Nat):aK TZp (W6 n):=bw Tryz.f127 (C6 n) (ll:=[FA.e n,FB.e n]) (js:=aaS n) (hT:=⟨.nil,K6 n,.nil,(.cc (Px n) (.cc (Pw n) .nil)),(.cc .nil)⟩)
def eQ (n:Nat)(a0:Addr)(a1:ζ):M ζ:=sh (aq li (a0.plus 9)) λ(x0:Int)=>if decide (0<x0) then sh (aq li (a0.plus 9)) λ(x1:Int)=>sh (iU n x1 9) λx2=>sh (fq n x2 (ofBytes [48])) λx3=>sh (nN (ofBytes [46]) x3) λx4=>sh (nN a1 x4) λx5=>AI x5 else AI a1
def cD (n:Nat)(a0:Addr)(a1:ζ):M ζ:=sh (aq li (a0.plus 0)) λ(x0:Int)=>if !decide (x0=1) then sh (px (decide (0<=3/\3<(↑8:Int)))) λx1=>sh (px (decide (0<=4/\4<(↑8:Int)))) λx2=>sh (px (decide (0<=5/\5<(↑8:Int)))) λx3=>sh (aq li ((a0.plus 1).plus 3)) λ(x4:Int)=>sh (aq li ((a0.plus 1).plus 4)) λ(x5:Int)=>sh (aq li ((a0.plus 1).plus 5)) λ(x6:Int)=>sh (k8 [some ((a0.plus 1).plus 4),some ((a0.plus 1).plus 5)] (iU n x4 2)) λx7=>sh (nN x7 (ofBytes [58])) λx8=>sh (k8 [some ((a0.plus 1).plus 5)] (iU n x5 2)) λx9=>sh (nN x8 x9) λfD=>sh (nN fD (ofBytes [58])) λx11=>sh (iU n x6 2) λx12=>sh (nN x11 x12) λx13=>sh (nN a1 x13) λjj=>eQ n a0 jj else eQ n a0 a1
def fZ (n:Nat)(a0:J11):M ζ:=sh (aF none bQ [vi a0.1,vi a0.2.1,vi a0.2.2.1,vi a0.2.2.2.1,vi a0.2.2.2.2.1,vi a0.2.2.2.2.2.1,vi a0.2.2.2.2.2.2.1,vi a0.2.2.2.2.2.2.2.1,vi a0.2.2.2.2.2.2.2.2.1,vi a0.2.2.2.2.2.2.2.2.2.1,.int IntKind.u8 a0.2.2.2.2.2.2.2.2.2.2]) λx0=>sh (aq li ((al x0).plus 0)) λ(x1:Int)=>if !decide (x1=2) then sh (px (decide (0<=0/\0<(↑8:Int)))) λx2=>sh (px (decide (0<=1/\1<(↑8:Int)))) λx3=>sh (px (decide (0<=2/\2<(↑8:Int)))) λx4=>sh (aq li (((al x0).plus 1).plus 0)) λ(x5:Int)=>sh (aq li (((al x0).plus 1).plus 1)) λ(x6:Int)=>sh (aq li (((al x0).plus 1).plus 2)) λ(x7:Int)=>sh (k8 [some (((al x0).plus 1).plus 1),some (((al x0).plus 1).plus 2)] (iU n x5 4)) λx8=>sh (nN x8 (ofBytes [45])) λx9=>sh (k8 [some (((al x0).plus 1).plus 2)] (iU n x6 2)) λfD=>sh (nN x9 fD) λx11=>sh (nN x11 (ofBytes [45])) λx12=>sh (iU n x7 2) λx13=>sh (nN x12 x13) λjj=>sh (aq li ((al x0).plus 0)) λ(x15:Int)=>if decide (x15=3) then sh (nN jj (ofBytes [84])) λrz=>cD n (al x0) rz else cD n (al x0) jj else sh (aq li ((al x0).plus 0)) λ(x2:Int)=>if decide (x2=3) then sh (nN (ofBytes []) (ofBytes [84])) λx3=>cD n (al x0) x3 else cD n (al x0) (ofBytes [])
abbrev W7 (n:Nat):dv:=⟨128,[.agg [.int .i64,.int .i64,.int .i64,.int .i64,.int .i64,.int .i64,.int .i64,.int .i64,.int .i64,.int .i64,.int .u8]],[qG],λx=>fZ n x⟩
def aaT (i:Nat):Option (List (Nat×η)):=Κ i 3 (Ω [0,1,5,6,11,12,2,7,13]++[(3,[7,13])]++Ω [4]++[(8,[13])]++Ω [9,10,14,15,16]) (Κ i 7 (Ω [0,1,2,6,7,12,13,3,8,14]++[(4,[8,14])]++Ω [5]++[(9,[14])]++Ω [10,11,15,16,17,18]) none)
abbrev aaU (n:Nat):List (jm ζ):=[⟨[0,0,1,1,1,1],[.code [1,0,1,1,1,1],.code [1,1,1,1,1]],[(1,aB),(3,qG)],υ2 (cD n)⟩, ⟨[0,0,1,1,1,1,1],[.code [1,0,1,1,1,1,1],.code [1,1,1,1,1,1]],[(1,aB),(3,qG)],υ2 (eQ n)⟩]
theorem yk (n:Nat):aK TZp (W7 n):=bw Tryz.f128 (C6 n) (dr:=aaT) (js:=aaU n) (hT:=⟨.nil,K6 n,.nil,.nil,(.cc (.cc .nil))⟩)
def na (G:Addr->Sl->Sl->Int->Int->Sl->Int->Int->M Unit)(n:Nat)(a0:Addr)(a1 a2:Sl)(a3 a4:Int)(a5:Sl)(a6 a7:Int):M Unit:=if decide (a7<a6) then sh (ar a5 a7 1) λx0=>sh (aq li x0) λ(x1:Int)=>sh (aE [.sl,li] a0) λ(x2:Sl×Int)=>sh (nz n (x2.1,x2.2) x1 a1) λx3=>G a0 a1 a2 a3 a4 a5 a6 (i64.wrap (a7+1)) else AI ()
def iX:Nat->Addr->Sl->Sl->Int->Int->Sl->Int->Int->M Unit|0=>λ_ _ _ _ _ _ _ _=>AS|n+1=>na (iX n) n
theorem zL (n:Nat):iX (n+1)=na (iX n) n:=rfl
def nf (G:Addr->Sl->Sl->Int->Int->M Unit)(n:Nat)(a0:Addr)(a1 a2:Sl)(a3 a4:Int):M Unit:=if decide (a4<a3) then sh (ar a2 a4 5) λx0=>sh (aE [li,.str,.bool,.sl,.sl] x0) λ(x1:Int×ζ×Bool×Sl×Sl)=>sh (aF none aA [vi 0,.string (ofBytes []),.bool false,aO,aO]) λx2=>sh (bh (al x2) [vi x1.1,.string x1.2.1,.bool x1.2.2.1,aI x1.2.2.2.1,aI x1.2.2.2.2]) λx3=>sh (aq .sl ((al x2).plus 3)) λ(x4:Sl)=>sh (iX n a0 a1 a2 a3 a4 x4 (x4.len:Int) 0) λx5=>G a0 a1 a2 a3 (i64.wrap (a4+1)) else AI ()
def iY:Nat->Addr->Sl->Sl->Int->Int->M Unit|0=>λ_ _ _ _ _=>AS|n+1=>nf (iY n) n
theorem zM (n:Nat):iY (n+1)=nf (iY n) n:=rfl
def qa (n:Nat)(a0:Sl×Int):M Sl:=sh (aF none aj [aI a0.1,vi a0.2]) λx0=>sh (aq .sl ((al x0).plus 0)) λ(x1:Sl)=>sh (qM none Bp [.bool false] (x1.len:Int) (x1.len:Int)) λx2=>sh (aq .sl ((al x0).plus 0)) λ(x3:Sl)=>sh (iY n (al x0) x2 x3 (x3.len:Int) 0) λx4=>AI x2
abbrev acR (n:Nat):dv:=⟨27,[.agg [.sl,.int .i64]],[cw],λx=>qa n x⟩
abbrev J7:L1:=⟨[0,1,0,1,1],[(1,aB),(3,cw),(13,cw),(14,aw),(15,aw)],[],[5,7]++List.range' 15 17,0,λn=>υ5 (iY n)⟩
abbrev J8:L1:=⟨[0,1,1,0,0,1,1,0,0,1,0,1,1],[(1,aB),(3,cw),(13,cw),(14,aw),(15,aw),(20,cw),(21,aw),(22,aw)],[],[7]++List.range' 22 9,2,λn=>υ8 (iX n)⟩
theorem Tg (n:Nat):lA TZp Tryz.f27 (J8.e n) J8.ws:=L1.ok Tryz.f27 J8 n C6 (hT:=λm _=>.m1 (K6 m))
theorem Th (n:Nat):lA TZp Tryz.f27 (J7.e n) J7.ws:=L1.ok Tryz.f27 J7 n C6 (lt:=λn=>[J8.e n]) (hT:=λm _=>⟨.nil,K6 m,.nil,(.cc (Tg m) .nil),.nil⟩)
theorem EV (n:Nat):aK TZp (acR n):=bw Tryz.f27 (C6 n) (ll:=[J7.e n]) (hT:=⟨.nil,K6 n,.nil,(.cc (Th n) .nil),.nil⟩)
def od (G:Addr->Sl->Sl->Bool->Sl->Sl->Int->Int->Int->Sl->Int->Int->Sl->Int->Int->Sl->Int->Int->M Bool)(n:Nat)(a0:Addr)(a1 a2:Sl)(a3:Bool)(a4 a5:Sl)(a6 a7 a8:Int)(a9:Sl)(a10 a11:Int)(a12:Sl)(a13 a14:Int)(a15:Sl)(a16 a17:Int):M Bool:=if decide (a17<a16) then sh (ar a15 a17 1) λx0=>sh (aq li x0) λ(x1:Int)=>sh (ar a1 x1 1) λx2=>sh (aq li x2) λ(x3:Int)=>if decide (x3=a6) then G a0 a1 a2 false a4 a5 a6 a7 a8 a9 a10 a11 a12 a13 a14 a15 a16 (i64.wrap (a17+1)) else sh (ar a4 a6 1) λx4=>sh (ar a1 x1 1) λx5=>sh (aq li x4) λ(x6:Int)=>sh (aq li x5) λ(x7:Int)=>sh (ar a4 x7 1) λx8=>sh (aq li x8) λ(x9:Int)=>sh (ar a4 a6 1) λfD=>sh (bh fD [vi (if x6<x9 then x9 else x6)]) λx11=>G a0 a1 a2 a3 a4 a5 a6 a7 a8 a9 a10 a11 a12 a13 a14 a15 a16 (i64.wrap (a17+1)) else AI a3
def jE:Nat->Addr->Sl->Sl->Bool->Sl->Sl->Int->Int->Int->Sl->Int->Int->Sl->Int->Int->Sl->Int->Int->M Bool|0=>λ_ _ _ _ _ _ _ _ _ _ _ _ _ _ _ _ _ _=>AS|n+1=>od (jE n) n
theorem AN (n:Nat):jE (n+1)=od (jE n) n:=rfl
def jh (G:Addr->Sl->Sl->Bool->Sl->Sl->Int->Int->Int->Sl->Int->Int->Sl->Int->Int->M Bool)(n:Nat)(a0:Addr)(a1 a2:Sl)(a3:Bool)(a4 a5:Sl)(a6 a7 a8:Int)(a9:Sl)(a10 a11:Int)(a12:Sl)(a13 a14:Int):M Bool:=if decide (a14<a13) then sh (ar a12 a14 1) λx0=>sh (aq .sl x0) λ(x1:Sl)=>sh (jE n a0 a1 a2 a3 a4 a5 a6 a7 a8 a9 a10 a11 a12 a13 a14 x1 (x1.len:Int) 0) λx2=>G a0 a1 a2 x2 a4 a5 a6 a7 a8 a9 a10 a11 a12 a13 (i64.wrap (a14+1)) else AI a3
def jF:Nat->Addr->Sl->Sl->Bool->Sl->Sl->Int->Int->Int->Sl->Int->Int->Sl->Int->Int->M Bool|0=>λ_ _ _ _ _ _ _ _ _ _ _ _ _ _ _=>AS|n+1=>jh (jF n) n
theorem qh (n:Nat):jF (n+1)=jh (jF n) n:=rfl
def oe (G:Addr->Sl->Sl->Bool->Sl->Sl->Int->Int->Int->Sl->Int->Int->M Bool)(n:Nat)(a0:Addr)(a1 a2:Sl)(a3:Bool)(a4 a5:Sl)(a6 a7 a8:Int)(a9:Sl)(a10 a11:Int):M Bool:=if decide (a11<a10) then sh (ar a9 a11 1) λx0=>sh (aq li x0) λ(x1:Int)=>sh (dz 15) λx2=>sh (aq .sl (a0.plus 0)) λ(x3:Sl)=>sh (ar x3 x1 5) λx4=>sh (aq .sl (x4.plus 3)) λ(x5:Sl)=>sh (aq .sl (a0.plus 0)) λ(x6:Sl)=>sh (ar x6 x1 5) λx7=>sh (aq .sl (x7.plus 4)) λ(x8:Sl)=>sh (aF (some (x2+12)) aR [aI x5,aI x8]) λx9=>sh (jF n a0 a1 a2 a3 a4 a5 a6 a7 a8 a9 a10 a11 { a:=some (al x9),len:=2,cap:=3 } (↑2:Int) 0) λfD=>G a0 a1 a2 fD a4 a5 a6 a7 a8 a9 a10 (i64.wrap (a11+1)) else AI a3
def jG:Nat->Addr->Sl->Sl->Bool->Sl->Sl->Int->Int->Int->Sl->Int->Int->M Bool|0=>λ_ _ _ _ _ _ _ _ _ _ _ _=>AS|n+1=>oe (jG n) n
theorem AO (n:Nat):jG (n+1)=oe (jG n) n:=rfl
def oh (G:Addr->Sl->Sl->Bool->Sl->Sl->Int->Int->M Bool)(n:Nat)(a0:Addr)(a1 a2:Sl)(a3:Bool)(a4 a5:Sl)(a6 a7:Int):M Bool:=if decide (a7<a6) then sh (ar a5 a7 1) λx0=>sh (aq .sl x0) λ(x1:Sl)=>sh (jG n a0 a1 a2 a3 a4 a5 a7 a6 a7 x1 (x1.len:Int) 0) λx2=>sh (ar a4 a7 1) λx3=>sh (ar a2 a7 1) λx4=>sh (aq li x3) λ(x5:Int)=>sh (aq li x4) λ(x6:Int)=>sh (ar a4 a7 1) λx7=>sh (bh x7 [vi (i64.wrap (x5+x6))]) λx8=>G a0 a1 a2 x2 a4 a5 a6 (i64.wrap (a7+1)) else AI a3
def jH:Nat->Addr->Sl->Sl->Bool->Sl->Sl->Int->Int->M Bool|0=>λ_ _ _ _ _ _ _ _=>AS|n+1=>oh (jH n) n
theorem AP (n:Nat):jH (n+1)=oh (jH n) n:=rfl
def oi (G:Addr->Sl->Sl->Bool->Sl->Sl->Sl->Int->Int->M Unit)(n:Nat)(a0:Addr)(a1 a2:Sl)(a3:Bool)(a4 a5 a6:Sl)(a7 a8:Int):M Unit:=if decide (a8<a7) then sh (ar a6 a8 1) λx0=>sh (aq li x0) λ(x1:Int)=>sh (ar a5 x1 1) λx2=>sh (aq .sl x2) λ(x3:Sl)=>sh (app false x3 1 an 1 [vi a8]) λx4=>sh (ar a5 x1 1) λx5=>sh (bh x5 [aI x4]) λx6=>G a0 a1 a2 a3 a4 a5 a6 a7 (i64.wrap (a8+1)) else AI ()
def jI:Nat->Addr->Sl->Sl->Bool->Sl->Sl->Sl->Int->Int->M Unit|0=>λ_ _ _ _ _ _ _ _ _=>AS|n+1=>oi (jI n) n
theorem AQ (n:Nat):jI (n+1)=oi (jI n) n:=rfl
def pN (n:Nat)(a0:Sl×Int):M (Int×Bool):=sh (aF none aj [aI a0.1,vi a0.2]) λx0=>sh (aE [.sl,li] (al x0)) λ(x1:Sl×Int)=>sh (lr n (x1.1,x1.2)) λx2=>sh (qM none an [vi 0] (x2.2.len:Int) (x2.2.len:Int)) λx3=>sh (qM none aR [aO] (x2.2.len:Int) (x2.2.len:Int)) λx4=>sh (jI n (al x0) x2.1 x2.2 true x3 x4 x2.1 (x2.1.len:Int) 0) λx5=>sh (jH n (al x0) x2.1 x2.2 true x3 x4 (x2.2.len:Int) 0) λx6=>sh (aq li ((al x0).plus 1)) λ(x7:Int)=>sh (ar x2.1 x7 1) λx8=>sh (aq li x8) λ(x9:Int)=>sh (ar x3 x9 1) λfD=>sh (aq li fD) λ(x11:Int)=>AI (i64.wrap (x11-1),x6)
abbrev acS (n:Nat):dv:=⟨29,[.agg [.sl,.int .i64]],[aw,lS],λx=>pN n x⟩
abbrev J9:L1:=⟨[0,1,0,1,1,1,1,1],[(1,aB),(4,cw),(5,cw),(6,lS),(7,cw),(8,cw),(29,cw),(30,aw),(31,aw)],[],[9,10]++List.range' 31 16,0,λn=>υ9 (jI n)⟩
abbrev Kc:L1:=⟨[0,1,0,1,1,1,1,1,1],[(1,aB),(4,cw),(5,cw),(6,lS),(7,cw),(8,cw),(48,aw),(49,aw)],[(6,lS)],[6,11,13,15,17]++List.range' 49 71,2,λn=>υ8 (jH n)⟩
abbrev Kd:L1:=⟨[0,1,0,1,0,0,1,1,0,0,1,0,1,1,1,1,1,1],[(1,aB),(4,cw),(5,cw),(6,lS),(7,cw),(8,cw),(11,aw),(48,aw),(49,aw),(55,cw),(56,aw),(57,aw)],[(6,lS)],[6,13,15,17]++List.range' 57 52,4,λn=>υ12 (jG n)⟩
abbrev Ke:L1:=⟨[0,1,1,0,0,1,1,0,0,1,0,1,0,0,1,1,0,0,1,0,1,1,1,1,1,1],[(1,aB),(4,cw),(5,cw),(6,lS),(7,cw),(8,cw),(11,aw),(48,aw),(49,aw),(55,cw),(56,aw),(57,aw),(73,cw),(74,aw),(75,aw)],[(6,lS)],[6,15,17]++List.range' 75 33,6,λn=>υ15 (jF n)⟩
abbrev Kf:L1:=⟨[0,1,1,0,0,1,1,0,0,1,1,0,0,1,1,0,0,1,0,1,0,0,1,1,0,0,1,0,1,1,1,1,1,1],[(1,aB),(4,cw),(5,cw),(6,lS),(7,cw),(8,cw),(11,aw),(48,aw),(49,aw),(55,cw),(56,aw),(57,aw),(73,cw),(74,aw),(75,aw),(79,cw),(80,aw),(81,aw)],[(6,lS)],[6,17]++List.range' 81 26,8,λn=>υ18 (jE n)⟩
def Dz (i:Nat):Option (List (Nat×η)):=Κ i 16 (Ω [0,2,6,8,14,1,3,4,5,7,9,10,11,12,13]) (Κ i 24 (Ω [0,1,2,3,4,6,7,8,9,5,10,11,12,13,14,15]) (Κ i 28 (Ω [0,1,2,4,5,6,3,7,8,9,10]) none))
theorem Ti (n:Nat):lA TZp Tryz.f29 (Kf.e n) Kf.ws:=L1.ok Tryz.f29 Kf n C6 (dr:=Dz) (hT:=λm _=>.m1 (K6 m))
theorem Tj (n:Nat):lA TZp Tryz.f29 (Ke.e n) Ke.ws:=L1.ok Tryz.f29 Ke n C6 (lt:=λn=>[Kf.e n]) (dr:=Dz) (hT:=λm _=>⟨.nil,K6 m,.nil,(.cc (Ti m) .nil),.nil⟩)
theorem Tk (n:Nat):lA TZp Tryz.f29 (Kd.e n) Kd.ws:=L1.ok Tryz.f29 Kd n C6 (lt:=λn=>[Ke.e n]) (dr:=Dz) (hT:=λm _=>⟨.nil,K6 m,.nil,(.cc (Tj m) .nil),.nil⟩)
theorem Tl (n:Nat):lA TZp Tryz.f29 (Kc.e n) Kc.ws:=L1.ok Tryz.f29 Kc n C6 (lt:=λn=>[Kd.e n]) (dr:=Dz) (hT:=λm _=>⟨.nil,K6 m,.nil,(.cc (Tk m) .nil),.nil⟩)
theorem Tm (n:Nat):lA TZp Tryz.f29 (J9.e n) J9.ws:=L1.ok Tryz.f29 J9 n C6 (dr:=Dz) (hT:=λm _=>.m1 (K6 m))
theorem GL (n:Nat):aK TZp (acS n):=bw Tryz.f29 (C6 n) (ll:=[J9.e n,Kc.e n]) (dr:=Dz) (hT:=⟨.nil,K6 n,.nil,(.cc (Tm n) (.cc (Tl n) .nil)),.nil⟩)
def strings_Compare (n:Nat)(a0 a1:ζ):M Int:=sh (j6 n a0 a1) λx0=>AI x0
abbrev acT (n:Nat):dv:=⟨38,[qG,qG],[aw],υ2 (strings_Compare n)⟩
theorem BC (n:Nat):aK TZp (acT n):=bw Tryz.f38 (C6 n) (hT:=.m1 (K6 n))
def pB (n:Nat)(a0:Int):M Int:=sh (qv n (IntKind.u64.wrap a0)) λx0=>sh (px (decide (0<=x0))) λx1=>AI (IntKind.u64.wrap (1*2^min (Int.toNat x0) 64))
abbrev W8 (n:Nat):dv:=⟨100,[aw],[.one (.int .u64)],λx=>pB n x⟩
theorem w7 (n:Nat):aK TZp (W8 n):=bw Tryz.f100 (C6 n) (hT:=.m1 (K6 n))
def lH (n:Nat)(a0 a1:Addr):M Int:=sh (aq .bool (a0.plus 0)) λ(x0:Bool)=>if x0 then sh (aq .sl (a1.plus 1)) λ(x1:Sl)=>sh (aq .sl (a0.plus 1)) λ(x2:Sl)=>sh (rZ n x1 x2) λx3=>AI x3 else sh (aq .sl (a0.plus 1)) λ(x1:Sl)=>sh (aq .sl (a1.plus 1)) λ(x2:Sl)=>sh (rZ n x1 x2) λx3=>AI x3
def sr (n:Nat)(a0 a1:Addr):M Int:=sh (aq .bool (a0.plus 0)) λ(x0:Bool)=>if x0 then sh (aq .bool (a1.plus 0)) λ(x1:Bool)=>if !x1 then AI (-1) else sh (aq .bool (a0.plus 0)) λ(x2:Bool)=>if !x2 then sh (aq .bool (a1.plus 0)) λ(x3:Bool)=>if x3 then AI 1 else lH n a0 a1 else lH n a0 a1 else sh (aq .bool (a0.plus 0)) λ(x1:Bool)=>if !x1 then sh (aq .bool (a1.plus 0)) λ(x2:Bool)=>if x2 then AI 1 else lH n a0 a1 else lH n a0 a1
def wK (n:Nat)(a0 a1:ζ):M Int:=sh (mU n a0) λx0=>sh (aF none aJ [.bool false,aO]) λx1=>sh (bh (al x1) [.bool x0.1.1,aI x0.1.2]) λx2=>sh (mU n a1) λx3=>sh (aF none aJ [.bool false,aO]) λx4=>sh (bh (al x4) [.bool x3.1.1,aI x3.1.2]) λx5=>if !x0.2 then AI 0 else if !x3.2 then AI 0 else sr n (al x1) (al x4)
abbrev W9 (n:Nat):dv:=⟨134,[qG,qG],[aw],υ2 (wK n)⟩
abbrev aaV (n:Nat):List (jm Int):=[⟨[0,0,0,1,1,1,1],[.code [1,0,0,1,1,1,1],.au 0,.code [1,1,1,1,1]],[(5,aB),(7,aB)],υ2 (sr n)⟩, ⟨[0,1,1,1,1,0,0,1,1,1,1],[.code [1,1,1,1,1,0,0,1,1,1,1],.au 0,.code [1,1,1,1,1]],[(5,aB),(7,aB)],υ2 (lH n)⟩]
theorem GM (n:Nat):aK TZp (W9 n):=bw Tryz.f134 (C6 n) (js:=aaV n) (hT:=⟨.nil,K6 n,.nil,.nil,(.cc (.cc .nil))⟩)
def qJ (n:Nat)(a0 a1:Bool×Sl×Int):M Int:=sh (aF none bW [.bool a0.1,aI a0.2.1,vi a0.2.2]) λx0=>sh (aF none bW [.bool a1.1,aI a1.2.1,vi a1.2.2]) λx1=>sh (aq .bool ((al x0).plus 0)) λ(x2:Bool)=>sh (aq .bool ((al x1).plus 0)) λ(x3:Bool)=>if !x2==x3 then sh (aq .bool ((al x0).plus 0)) λ(x4:Bool)=>if x4 then AI (-1) else AI 1 else sh (aE [.bool,.sl,li] (al x0)) λ(x4:Bool×Sl×Int)=>sh (aE [.bool,.sl,li] (al x1)) λ(x5:Bool×Sl×Int)=>sh (oT n (x4.1,x4.2.1,x4.2.2) (x5.1,x5.2.1,x5.2.2)) λx6=>sh (ug n x6) λx7=>sh (aq .bool ((al x0).plus 0)) λ(x8:Bool)=>if x8 then AI (i64.wrap (0-x7)) else AI x7
abbrev Xa (n:Nat):dv:=⟨162,[.agg [.bool,.sl,.int .i64],.agg [.bool,.sl,.int .i64]],[aw],υ2 (qJ n)⟩
theorem BD (n:Nat):aK TZp (Xa n):=bw Tryz.f162 (C6 n) (hT:=.m1 (K6 n))
def dQ (n:Nat)(a0:θ)(a1:ζ):M (Int×ξ):=sh (fU n a0) λx0=>sh (nn a0) λx1=>sh (aq .sl (x1.plus 1)) λ(x2:Sl)=>sh (app false x2 1 jT a1.size (fO a1)) λx3=>sh (nn a0) λx4=>sh (bh (x4.plus 1) [aI x3]) λx5=>AI ((a1.size:Int),Value.nilIface)
abbrev acU (n:Nat):dv:=⟨34,[BZ,qG],[aw,th],υ2 (dQ n)⟩
theorem tK (n:Nat):aK TZp (acU n):=bw Tryz.f34 (C6 n) (hT:=.m1 (K6 n))
def cy (n:Nat)(a0:θ)(a1:Int):M ξ:=sh (fU n a0) λx0=>sh (nn a0) λx1=>sh (aq .sl (x1.plus 1)) λ(x2:Sl)=>sh (app false x2 1 jT 1 [.int IntKind.u8 a1]) λx3=>sh (nn a0) λx4=>sh (bh (x4.plus 1) [aI x3]) λx5=>AI Value.nilIface
abbrev acV (n:Nat):dv:=⟨35,[BZ,.one (.int .u8)],[th],υ2 (cy n)⟩
theorem uK (n:Nat):aK TZp (acV n):=bw Tryz.f35 (C6 n) (hT:=.m1 (K6 n))
abbrev C7 (n:Nat):List dv:=acP n::WX n::WY n::WZ n::W1 n::W4 n::acQ n::W5 n::W6 n::W7 n::acR n::acS n::acT n::W8 n::W9 n::Xa n::acU n::acV n::C6 n
theorem K7 (n:Nat):eE TZp (C7 n):=.cons (Dy n) (.cons (AM n) (.cons (GK n) (.cons (HR n) (.cons (Ct n) (.cons (ET n) (.cons (EU n) (.cons (HS n) (.cons (HU n) (.cons (yk n) (.cons (EV n) (.cons (GL n) (.cons (BC n) (.cons (w7 n) (.cons (GM n) (.cons (BD n) (.cons (tK n) (.cons (uK n) (K6 n))))))))))))))))))
def mw (n:Nat)(a0:ζ)(a1:Addr)(a2:Int):M ((Bool×Sl×Int)×Bool):=sh (iq a0 (i64.wrap (a2+1)) (a0.size:Int)) λx0=>sh (strconv_Atoi n x0) λx1=>sh (ke x1.2) λx2=>if !x2 then sh (bh a1 [.bool false,aO,vi 0]) λx3=>sh (aE [.bool,.sl,li] a1) λ(x4:Bool×Sl×Int)=>AI ((x4.1,x4.2.1,x4.2.2),false) else sh (iq a0 0 a2) λx3=>sh (strings_TrimPrefix n x3 (ofBytes [45])) λx4=>sh (dz 9) λx5=>sh (oL a0 0) λx6=>sh (aF (some (x5+7)) bW [.bool false,aO,vi 0]) λx7=>sh (k8 [none] (rH (x5+7) (pg n x4))) λx8=>sh (k8 [none] (rH (x5+7) (p8 n (decide ((x6.toNat:Int)=45)) x8 x1.1))) λx9=>sh (bh (al x7) [.bool x9.1,aI x9.2.1,vi x9.2.2]) λfD=>sh (aE [.bool,.sl,li] (al x7)) λ(x11:Bool×Sl×Int)=>sh (aE [.bool,.sl,li] (al x7)) λ(x12:Bool×Sl×Int)=>sh (k8 [some (al x7)] (j5 n (x12.1,x12.2.1,x12.2.2))) λx13=>if decide (x13=0) then sh (aE [.bool,.sl,li] (al x7)) λ(jj:Bool×Sl×Int)=>sh (k8 [some (al x7)] (lu n (jj.1,jj.2.1,jj.2.2))) λx15=>sh (bh a1 [.bool x11.1,aI x11.2.1,vi x11.2.2]) λrz=>sh (aE [.bool,.sl,li] a1) λ(x17:Bool×Sl×Int)=>AI ((x17.1,x17.2.1,x17.2.2),qE x15 a0) else sh (bh a1 [.bool x11.1,aI x11.2.1,vi x11.2.2]) λjj=>sh (aE [.bool,.sl,li] a1) λ(x15:Bool×Sl×Int)=>AI ((x15.1,x15.2.1,x15.2.2),false)
def nh (n:Nat)(a0:ζ):M ((Bool×Sl×Int)×Bool):=sh (aF none bW [.bool false,aO,vi 0]) λx0=>sh (strings_IndexByte n a0 101) λx1=>if decide (x1<0) then sh (bh (al x0) [.bool false,aO,vi 0]) λx2=>sh (aE [.bool,.sl,li] (al x0)) λ(x3:Bool×Sl×Int)=>AI ((x3.1,x3.2.1,x3.2.2),false) else sh (iq a0 0 x1) λx2=>sh (nA n x2) λx3=>if !x3 then sh (bh (al x0) [.bool false,aO,vi 0]) λx4=>sh (aE [.bool,.sl,li] (al x0)) λ(x5:Bool×Sl×Int)=>AI ((x5.1,x5.2.1,x5.2.2),false) else if decide (6<i64.wrap ((a0.size:Int)-x1)) then sh (bh (al x0) [.bool false,aO,vi 0]) λx4=>sh (aE [.bool,.sl,li] (al x0)) λ(x5:Bool×Sl×Int)=>AI ((x5.1,x5.2.1,x5.2.2),false) else mw n a0 (al x0) x1
abbrev acW (n:Nat):dv:=⟨90,[qG],[.agg [.bool,.sl,.int .i64],lS],λx=>nh n x⟩
def aeI (i:Nat):Option (List (Nat×η)):=Κ i 8 (Ω [0,1,2,3,5,7]++[(4,[7]),(6,[7])]++Ω [8]) (Κ i 9 (Ω [0,1]++[(2,[0])]++Ω [3,4,7,5]++[(6,[0])]++Ω [8,9,10,11]) none)
abbrev aeJ (n:Nat):List (jm ((Bool×Sl×Int)×Bool)):=[⟨[0,1,1,1],[.code [1,1,1,1]],[(0,qG),(2,aB),(4,aw)],υ3 (mw n)⟩]
theorem EW (n:Nat):aK TZp (acW n):=bw Tryz.f90 (C7 n) (dr:=aeI) (js:=aeJ n) (hT:=⟨.nil,K7 n,.nil,.nil,(.cc .nil)⟩)
def pn (n:Nat)(a0 a1:Int)(a2:Nat):M (Nat):=sh (px (decide (0<=52))) λx0=>sh (bY n (IntKind.u64.wrap (↑(BitVec.ofInt 64 (IntKind.u64.wrap (↑(BitVec.ofInt 64 a1&&&~~~BitVec.ofInt 64 9218868437227405312).toNat:Int))|||BitVec.ofInt 64 (IntKind.u64.wrap (IntKind.u64.wrap (i64.wrap (a0+1023))*2^52))).toNat:Int))) λx1=>sh (Ex a2 x1) λx2=>AI x2
def ui (n a0:Nat)(a1:Int):M (Nat):=sh (pM n a0) λx0=>sh (ep n x0.1) λx1=>sh (px (decide (0<=52))) λx2=>if decide (i64.wrap (i64.wrap (a1+x0.2)+i64.wrap (i64.wrap (↑(BitVec.ofInt 64 (i64.wrap (Int.fdiv x1 (2^52)))&&&BitVec.ofInt 64 2047).toNat:Int)-1023)) < -1075) then sh (kZ n 0 x0.1) λx3=>AI x3 else if decide (1023<i64.wrap (i64.wrap (a1+x0.2)+i64.wrap (i64.wrap (↑(BitVec.ofInt 64 (i64.wrap (Int.fdiv x1 (2^52)))&&&BitVec.ofInt 64 2047).toNat:Int)-1023))) then if ZM x0.1 0 then sh (vR n (-1)) λx3=>AI x3 else sh (vR n 1) λx3=>AI x3 else if decide (i64.wrap (i64.wrap (a1+x0.2)+i64.wrap (i64.wrap (↑(BitVec.ofInt 64 (i64.wrap (Int.fdiv x1 (2^52)))&&&BitVec.ofInt 64 2047).toNat:Int)-1023)) < -1022) then pn n (i64.wrap (i64.wrap (i64.wrap (a1+x0.2)+i64.wrap (i64.wrap (↑(BitVec.ofInt 64 (i64.wrap (Int.fdiv x1 (2^52)))&&&BitVec.ofInt 64 2047).toNat:Int)-1023))+53)) x1 4368491638549381120 else pn n (i64.wrap (i64.wrap (a1+x0.2)+i64.wrap (i64.wrap (↑(BitVec.ofInt 64 (i64.wrap (Int.fdiv x1 (2^52)))&&&BitVec.ofInt 64 2047).toNat:Int)-1023))) x1 4607182418800017408
def yl (n a0:Nat)(a1:Int):M (Nat):=if Hw a0 0 then AI a0 else sh (tI n a0 0) λx0=>if x0 then AI a0 else sh (yf n a0) λx1=>if x1 then AI a0 else ui n a0 a1
abbrev Xb (n:Nat):dv:=⟨147,[.one (.f64),aw],[.one (.f64)],υ2 (yl n)⟩
abbrev aaW (n:Nat):List (jm (Nat)):=[⟨[0,1,1],[.code [1,1,1]],[(0,.one (.f64)),(1,aw)],υ2 (ui n)⟩, ⟨[0,1,1,1,1,1,1,1,1,1,1],[.code [1,1,1,1,1,1,1,1,1,1,1]],[(1,aw),(6,.one (.int .u64)),(7,.one (.f64))],υ3 (pn n)⟩]
theorem HV (n:Nat):aK TZp (Xb n):=bw Tryz.f147 (C7 n) (js:=aaW n) (hT:=⟨.nil,K7 n,.nil,.nil,(.cc (.cc .nil))⟩)
def oj (n a0:Nat)(a1:ζ):M ζ:=if !Hw a0 a0 then AI (ofBytes [110,97,110]) else sh (tI n a0 0) λx0=>if x0 then sh (nN a1 (ofBytes [105,110,102])) λx1=>AI x1 else if Hw a0 0 then sh (nN a1 (ofBytes [48,112,48])) λx1=>AI x1 else sh (sq n a0) λx1=>sh (lG n x1.1 10) λx2=>sh (nN a1 x2) λx3=>sh (nN x3 (ofBytes [112])) λx4=>sh (strconv_Itoa n x1.2) λx5=>sh (nN x4 x5) λx6=>AI x6
def uy (n a0:Nat):M ζ:=sh (se n a0) λx0=>if x0 then oj n a0 (ofBytes [45]) else oj n a0 (ofBytes [])
abbrev Xc (n:Nat):dv:=⟨121,[.one (.f64)],[qG],λx=>uy n x⟩
abbrev aaX (n:Nat):List (jm ζ):=[⟨[0,0,0,1,1,1],[.code [1,0,0,1,1,1],.au 0,.code [1,1,1,1]],[(0,.one (.f64)),(3,qG)],υ2 (oj n)⟩]
theorem GN (n:Nat):aK TZp (Xc n):=bw Tryz.f121 (C7 n) (js:=aaX n) (hT:=⟨.nil,K7 n,.nil,.nil,(.cc .nil)⟩)
def cV (G:Addr->(Int×Int×Int×Int×Int)->Int->M (Unit⊕Bool))(n:Nat)(a0:Addr)(a1:Int×Int×Int×Int×Int)(a2:Int):M (Unit⊕Bool):=if decide (a2<5) then sh (A9 li 5 [vi a1.1,vi a1.2.1,vi a1.2.2.1,vi a1.2.2.2.1,vi a1.2.2.2.2] a2) λx0=>sh (px (decide (0<=i64.wrap (a2+3)/\i64.wrap (a2+3)<(↑8:Int)))) λx1=>sh (aq li ((a0.plus 1).plus ((i64.wrap (a2+3)).toNat*1))) λ(x2:Int)=>if decide (x0<x2) then AI (Sum.inr false) else G a0 (a1.1,a1.2.1,a1.2.2.1,a1.2.2.2.1,a1.2.2.2.2) (i64.wrap (a2+1)) else AI (Sum.inl ())
def cJ:Nat->Addr->(Int×Int×Int×Int×Int)->Int->M (Unit⊕Bool)|0=>λ_ _ _=>AS|n+1=>cV (cJ n) n
def dK (n:Nat)(a0:Addr):M Bool:=sh (aF none Sy [vi 0,vi 0,vi 0,vi 0,vi 0]) λx0=>sh (bh (al x0) [vi 23,vi 59,vi 59,vi 23,vi 59]) λx1=>sh (aE [li,li,li,li,li] (al x0)) λ(x2:Int×Int×Int×Int×Int)=>sh (cJ n a0 (x2.1,x2.2.1,x2.2.2.1,x2.2.2.2.1,x2.2.2.2.2) 0) (cz (λx3=>AI true) (λx3=>AI x3))
def fj (n:Nat)(a0:J11):M Bool:=sh (aF none bQ [vi a0.1,vi a0.2.1,vi a0.2.2.1,vi a0.2.2.2.1,vi a0.2.2.2.2.1,vi a0.2.2.2.2.2.1,vi a0.2.2.2.2.2.2.1,vi a0.2.2.2.2.2.2.2.1,vi a0.2.2.2.2.2.2.2.2.1,vi a0.2.2.2.2.2.2.2.2.2.1,.int IntKind.u8 a0.2.2.2.2.2.2.2.2.2.2]) λx0=>sh (aq li ((al x0).plus 0)) λ(x1:Int)=>if !decide (x1=2) then sh (px (decide (0<=0/\0<(↑8:Int)))) λx2=>sh (aq li (((al x0).plus 1).plus 0)) λ(x3:Int)=>sh (px (decide (0<=1/\1<(↑8:Int)))) λx4=>sh (aq li (((al x0).plus 1).plus 1)) λ(x5:Int)=>sh (px (decide (0<=2/\2<(↑8:Int)))) λx6=>sh (aq li (((al x0).plus 1).plus 2)) λ(x7:Int)=>sh (tJ n x3 x5 x7) λx8=>if !decide (x8.2=0) then AI false else dK n (al x0) else dK n (al x0)
abbrev acX (n:Nat):dv:=⟨94,[.agg [.int .i64,.int .i64,.int .i64,.int .i64,.int .i64,.int .i64,.int .i64,.int .i64,.int .i64,.int .i64,.int .u8]],[lS],λx=>fj n x⟩
abbrev Kg:L2:=⟨[0,1,0,1,1,1],[(1,aB),(27,.agg [.int .i64,.int .i64,.int .i64,.int .i64,.int .i64]),(28,aw)],[],[(2,lS)],[2,6,7]++List.range' 28 12,0,.ret,λn=>υ3 (cJ n)⟩
abbrev aeK (n:Nat):List (jm Bool):=[⟨[0,1,1],[.code [1,1,1]],[(1,aB)],λx=>dK n x⟩]
theorem Tn (n:Nat):lA TZp Tryz.f94 (Kg.e n) Kg.ws:=L2.ok Tryz.f94 Kg n C7 (hT:=λm _=>.m1 (K7 m))
theorem w8 (n:Nat):aK TZp (acX n):=bw Tryz.f94 (C7 n) (ll:=[Kg.e n]) (js:=aeK n) (hT:=⟨.nil,K7 n,.nil,(.cc (Tn n) .nil),(.cc .nil)⟩)
def fI (n:Nat)(a0 a1 a2:Int):M (ζ×Int):=sh (vX n a1) λx0=>if !decide (x0.2.2.2=0) then AI ((ofBytes []),13) else sh (px (decide (3600≠0))) λx1=>sh (px (decide (60≠0))) λx2=>sh (px (decide (60≠0))) λx3=>sh (px (decide (60≠0))) λx4=>sh (aF none bQ [vi 0,vi 0,vi 0,vi 0,vi 0,vi 0,vi 0,vi 0,vi 0,vi 0,.int IntKind.u8 0]) λx5=>sh (bh (al x5) [vi 3,vi x0.1,vi x0.2.1,vi x0.2.2.1,vi (i64.wrap (a2.tdiv 3600)),vi ((i64.wrap (a2.tdiv 60)).tmod 60),vi (a2.tmod 60),vi 0,vi 0,vi a0,.int IntKind.u8 0]) λx6=>sh (aE [li,li,li,li,li,li,li,li,li,li,.int IntKind.u8] (al x5)) λ(x7:J11)=>sh (fZ n (x7.1,x7.2.1,x7.2.2.1,x7.2.2.2.1,x7.2.2.2.2.1,x7.2.2.2.2.2.1,x7.2.2.2.2.2.2.1,x7.2.2.2.2.2.2.2.1,x7.2.2.2.2.2.2.2.2.1,x7.2.2.2.2.2.2.2.2.2.1,x7.2.2.2.2.2.2.2.2.2.2)) λx8=>sh (nN x8 (ofBytes [90])) λx9=>AI (x9,0)
def jJ (n:Nat)(a0 a1:Int):M (ζ×Int):=sh (px (decide (86400≠0))) λx0=>sh (px (decide (86400≠0))) λx1=>if decide (a0.tmod 86400<0) then fI n a1 (i64.wrap (i64.wrap (a0.tdiv 86400)-1)) (i64.wrap (a0.tmod 86400+86400)) else fI n a1 (i64.wrap (a0.tdiv 86400)) (a0.tmod 86400)
def j7 (n:Nat)(a0 a1:Int):M (ζ×Int):=if decide (a1<0) then AI ((ofBytes []),2) else if decide (999999999<a1) then AI ((ofBytes []),2) else if decide (a0 < -62167219200) then AI ((ofBytes []),13) else if decide (253402300800<=a0) then AI ((ofBytes []),13) else jJ n a0 a1
abbrev acY (n:Nat):dv:=⟨95,[aw,aw],[qG,aw],υ2 (j7 n)⟩
abbrev aeL (n:Nat):List (jm (ζ×Int)):=[⟨[0,1,1,1],[.code [1,1,1,1]],[(0,aw),(1,aw)],υ2 (jJ n)⟩, ⟨[0,1,1,1,1,1],[.code [1,1,1,1,1,1]],[(1,aw),(6,aw),(7,aw)],υ3 (fI n)⟩]
theorem zN (n:Nat):aK TZp (acY n):=bw Tryz.f95 (C7 n) (js:=aeL n) (hT:=⟨.nil,K7 n,.nil,.nil,(.cc (.cc .nil))⟩)
def fR (n:Nat)(a0:J11):M Int:=sh (aF none bQ [vi a0.1,vi a0.2.1,vi a0.2.2.1,vi a0.2.2.2.1,vi a0.2.2.2.2.1,vi a0.2.2.2.2.2.1,vi a0.2.2.2.2.2.2.1,vi a0.2.2.2.2.2.2.2.1,vi a0.2.2.2.2.2.2.2.2.1,vi a0.2.2.2.2.2.2.2.2.2.1,.int IntKind.u8 a0.2.2.2.2.2.2.2.2.2.2]) λx0=>sh (px (decide (0<=0/\0<(↑8:Int)))) λx1=>sh (aq li (((al x0).plus 1).plus 0)) λ(x2:Int)=>sh (px (decide (0<=1/\1<(↑8:Int)))) λx3=>sh (aq li (((al x0).plus 1).plus 1)) λ(x4:Int)=>sh (px (decide (0<=2/\2<(↑8:Int)))) λx5=>sh (aq li (((al x0).plus 1).plus 2)) λ(x6:Int)=>sh (tJ n x2 x4 x6) λx7=>sh (px (decide (0<=3/\3<(↑8:Int)))) λx8=>sh (aq li (((al x0).plus 1).plus 3)) λ(x9:Int)=>sh (px (decide (0<=4/\4<(↑8:Int)))) λfD=>sh (aq li (((al x0).plus 1).plus 4)) λ(x11:Int)=>sh (px (decide (0<=5/\5<(↑8:Int)))) λx12=>sh (aq li (((al x0).plus 1).plus 5)) λ(x13:Int)=>sh (px (decide (0<=6/\6<(↑8:Int)))) λjj=>sh (aq li (((al x0).plus 1).plus 6)) λ(x15:Int)=>sh (px (decide (0<=7/\7<(↑8:Int)))) λrz=>sh (aq li (((al x0).plus 1).plus 7)) λ(x17:Int)=>sh (aq (.int IntKind.u8) ((al x0).plus 10)) λ(vB:Int)=>if decide (vB=43) then AI (i64.wrap (i64.wrap (i64.wrap (i64.wrap (i64.wrap (x7.1*86400)+i64.wrap (x9*3600))+i64.wrap (x11*60))+x13)-i64.wrap (i64.wrap (x15*3600)+i64.wrap (x17*60)))) else AI (i64.wrap (i64.wrap (i64.wrap (i64.wrap (i64.wrap (x7.1*86400)+i64.wrap (x9*3600))+i64.wrap (x11*60))+x13)+i64.wrap (i64.wrap (x15*3600)+i64.wrap (x17*60))))
abbrev acZ (n:Nat):dv:=⟨96,[.agg [.int .i64,.int .i64,.int .i64,.int .i64,.int .i64,.int .i64,.int .i64,.int .i64,.int .i64,.int .i64,.int .u8]],[aw],λx=>fR n x⟩
theorem wz (n:Nat):aK TZp (acZ n):=bw Tryz.f96 (C7 n) (hT:=.m1 (K7 n))
def aH (n:Nat)(a0 a1:Int)(a2 a3:Addr):M Int:=sh (aq .ptr a2) λ(x0:θ)=>sh (nn x0) λx1=>sh (aq .sl ((x1.plus 0).plus 0)) λ(x2:Sl)=>sh (aq .sl (a3.plus 3)) λ(x3:Sl)=>sh (ar x3 a0 1) λx4=>sh (aq li x4) λ(x5:Int)=>sh (ar x2 x5 5) λx6=>sh (aq .str (x6.plus 1)) λ(x7:ζ)=>sh (aq .ptr a2) λ(x8:θ)=>sh (nn x8) λx9=>sh (aq .sl ((x9.plus 0).plus 0)) λ(fD:Sl)=>sh (aq .sl (a3.plus 3)) λ(x11:Sl)=>sh (ar x11 a1 1) λx12=>sh (aq li x12) λ(x13:Int)=>sh (ar fD x13 5) λjj=>sh (aq .str (jj.plus 1)) λ(x15:ζ)=>sh (strings_Compare n x7 x15) λrz=>AI rz
abbrev ac0 (n:Nat):dv:=⟨37,[aw,aw,aB,aB],[aw],υ4 (aH n)⟩
def aeM (i:Nat):Option (List (Nat×η)):=Κ i 1 (Ω [5,7,18,20,0,1,2,3,4,6,8,9,10,11,12,13,14,15,16,17,19,21,22,23,24,25,26,27]) none
theorem aG (n:Nat):aK TZp (ac0 n):=bw Tryz.f37 (C7 n) (dr:=aeM) (hT:=.m1 (K7 n))
def bV (G:Sl->Int->Int->Addr->Int->Int->M Unit)(n:Nat)(a0:Sl)(a1 a2:Int)(a3:Addr)(a4 a5 a6:Int):M Unit:=sh (ar a0 (i64.wrap (a1+a6)) 1) λx0=>sh (ar a0 a5 1) λx1=>sh (aq li x0) λ(x2:Int)=>sh (aq li x1) λ(x3:Int)=>sh (ar a0 a5 1) λx4=>sh (bh x4 [vi x2]) λx5=>sh (ar a0 (i64.wrap (a1+a6)) 1) λx6=>sh (bh x6 [vi x3]) λx7=>G a0 a1 a2 a3 a4 (i64.wrap (a5+1))
def cA (G:Sl->Int->Int->Addr->Int->Int->M Unit)(n:Nat)(a0:Sl)(a1 a2:Int)(a3:Addr)(a4 a5:Int):M Unit:=sh (px (decide (4≠0))) λx0=>if decide (a5<=i64.wrap (i64.wrap (a1+i64.wrap (i64.wrap (a2.tdiv 4)*2))+1)) then sh (mR n (some a3)) λx1=>if decide (a2<=i64.wrap (IntKind.u64.wrap (↑(BitVec.ofInt 64 x1&&&BitVec.ofInt 64 (IntKind.u64.wrap (a4-1))).toNat:Int))) then bV G n a0 a1 a2 a3 a4 a5 (i64.wrap (i64.wrap (IntKind.u64.wrap (↑(BitVec.ofInt 64 x1&&&BitVec.ofInt 64 (IntKind.u64.wrap (a4-1))).toNat:Int))-a2)) else bV G n a0 a1 a2 a3 a4 a5 (i64.wrap (IntKind.u64.wrap (↑(BitVec.ofInt 64 x1&&&BitVec.ofInt 64 (IntKind.u64.wrap (a4-1))).toNat:Int))) else AI ()
def bj:Nat->Sl->Int->Int->Addr->Int->Int->M Unit|0=>λ_ _ _ _ _ _=>AS|n+1=>cA (bj n) n
def qb (n:Nat):=bV (bj n) n
def fG (n:Nat)(a0:Sl)(a1 a2:Int)(a3:ξ):M Unit:=if decide (8<=i64.wrap (a2-a1)) then sh (aF none wG [.int IntKind.u64 0]) λx0=>sh (bh (al x0) [.int IntKind.u64 (IntKind.u64.wrap (i64.wrap (a2-a1)))]) λx1=>sh (pB n (i64.wrap (a2-a1))) λx2=>sh (px (decide (4≠0))) λx3=>sh (bj n a0 a1 (i64.wrap (a2-a1)) (al x0) x2 (i64.wrap (i64.wrap (a1+i64.wrap (i64.wrap ((i64.wrap (a2-a1)).tdiv 4)*2))-1))) λx4=>AI () else AI ()
abbrev ac1 (n:Nat):dv:=⟨78,[cw,aw,aw,th],[],υ4 (fG n)⟩
abbrev Kh:L1:=⟨[0,1,1,1,0,1,1],[(0,cw),(1,aw),(8,aw),(9,aB),(10,.one (.int .u64)),(11,aw)],[],[11,12]++List.range' 28 39,0,λn=>υ6 (bj n)⟩
def Xd (i:Nat):Option (List (Nat×η)):=Κ i 10 (Ω [0,1,2,3,4,5,6,7,8,9,10,12,13,14,11,15,16,17,18,19]) none
abbrev To (n:Nat):List (jm Unit):=[⟨[1,1,0,0,1,0,0,1,1,1,0,1,1],[.au 1,.code [1,1,0,0,1,1,1,0,1,1]],[(0,cw),(1,aw),(8,aw),(9,aB),(10,.one (.int .u64)),(11,aw),(12,aw)],υ7 (qb n)⟩]
theorem Tp (n:Nat):lA TZp Tryz.f78 (Kh.e n) Kh.ws:=L1.ok Tryz.f78 Kh n C7 (dr:=Xd) (jt:=To) (hT:=λm _=>⟨.nil,K7 m,.nil,.nil,(.cc .nil)⟩)
theorem qT (n:Nat):aK TZp (ac1 n):=bw Tryz.f78 (C7 n) (ll:=[Kh.e n]) (dr:=Xd) (hT:=⟨.nil,K7 n,.nil,(.cc (Tp n) .nil),.nil⟩)
def gW (n:Nat)(a0:θ)(a1:ζ):M Unit:=sh (nn a0) λx0=>sh (strconv_Itoa n (a1.size:Int)) λx1=>sh (dQ n (some (x0.plus 2)) x1) λx2=>sh (nn a0) λx3=>sh (cy n (some (x3.plus 2)) 58) λx4=>sh (nn a0) λx5=>sh (dQ n (some (x5.plus 2)) a1) λx6=>AI ()
abbrev ac2 (n:Nat):dv:=⟨39,[BZ,qG],[],υ2 (gW n)⟩
def aeN (i:Nat):Option (List (Nat×η)):=Κ i 0 (Ω [0,1,2,3,4,5,6]) none
theorem vY (n:Nat):aK TZp (ac2 n):=bw Tryz.f39 (C7 n) (dr:=aeN) (hT:=.m1 (K7 n))
abbrev C8 (n:Nat):List dv:=acW n::Xb n::Xc n::acX n::acY n::acZ n::ac0 n::ac1 n::ac2 n::C7 n
theorem K8 (n:Nat):eE TZp (C8 n):=.cons (EW n) (.cons (HV n) (.cons (GN n) (.cons (w8 n) (.cons (zN n) (.cons (wz n) (.cons (aG n) (.cons (qT n) (.cons (vY n) (K7 n)))))))))
def po (n:Nat)(a0:ζ):M Bool:=sh (nh n a0) λx0=>sh (aF none bW [.bool false,aO,vi 0]) λx1=>sh (bh (al x1) [.bool x0.1.1,aI x0.1.2.1,vi x0.1.2.2]) λx2=>AI x0.2
abbrev ac3 (n:Nat):dv:=⟨64,[qG],[lS],λx=>po n x⟩
theorem DA (n:Nat):aK TZp (ac3 n):=bw Tryz.f64 (C8 n) (hT:=.m1 (K8 n))
def vZ (n a0:Nat)(a1:Int):M (Nat):=sh (yl n a0 a1) λx0=>AI x0
abbrev Xe (n:Nat):dv:=⟨120,[.one (.f64),aw],[.one (.f64)],υ2 (vZ n)⟩
theorem HW (n:Nat):aK TZp (Xe n):=bw Tryz.f120 (C8 n) (hT:=.m1 (K8 n))
def ji (n:Nat)(a0:Addr):M (ζ×Int):=sh (aE [li,li,li,li,li,li,li,li,li,li,.int IntKind.u8] a0) λ(x0:J11)=>sh (fj n (x0.1,x0.2.1,x0.2.2.1,x0.2.2.2.1,x0.2.2.2.2.1,x0.2.2.2.2.2.1,x0.2.2.2.2.2.2.1,x0.2.2.2.2.2.2.2.1,x0.2.2.2.2.2.2.2.2.1,x0.2.2.2.2.2.2.2.2.2.1,x0.2.2.2.2.2.2.2.2.2.2)) λx1=>if !x1 then AI ((ofBytes []),13) else sh (aE [li,li,li,li,li,li,li,li,li,li,.int IntKind.u8] a0) λ(x2:J11)=>sh (aq li (a0.plus 9)) λ(x3:Int)=>sh (k8 [some (a0.plus 9)] (fR n (x2.1,x2.2.1,x2.2.2.1,x2.2.2.2.1,x2.2.2.2.2.1,x2.2.2.2.2.2.1,x2.2.2.2.2.2.2.1,x2.2.2.2.2.2.2.2.1,x2.2.2.2.2.2.2.2.2.1,x2.2.2.2.2.2.2.2.2.2.1,x2.2.2.2.2.2.2.2.2.2.2))) λx4=>sh (j7 n x4 x3) λx5=>AI (x5.1,x5.2)
def kq (n:Nat)(a0:ζ):M (ζ×Int):=sh (kQ n a0) λx0=>sh (aF none bQ [vi 0,vi 0,vi 0,vi 0,vi 0,vi 0,vi 0,vi 0,vi 0,vi 0,.int IntKind.u8 0]) λx1=>sh (bh (al x1) [vi x0.1.1,vi x0.1.2.1,vi x0.1.2.2.1,vi x0.1.2.2.2.1,vi x0.1.2.2.2.2.1,vi x0.1.2.2.2.2.2.1,vi x0.1.2.2.2.2.2.2.1,vi x0.1.2.2.2.2.2.2.2.1,vi x0.1.2.2.2.2.2.2.2.2.1,vi x0.1.2.2.2.2.2.2.2.2.2.1,.int IntKind.u8 x0.1.2.2.2.2.2.2.2.2.2.2]) λx2=>if !x0.2 then AI ((ofBytes []),3) else sh (aq (.int IntKind.u8) ((al x1).plus 10)) λ(x3:Int)=>if decide (x3=0) then AI ((ofBytes []),3) else ji n (al x1)
abbrev ac4 (n:Nat):dv:=⟨67,[qG],[qG,aw],λx=>kq n x⟩
def aeO (i:Nat):Option (List (Nat×η)):=Κ i 6 (Ω [2,0,3]++[(1,[3])]++Ω [4,5,6,7,8]) none
abbrev aeP (n:Nat):List (jm (ζ×Int)):=[⟨[0,0,1,1,1],[.code [1,0,1,1,1],.code [1,1,1,1]],[(4,aB)],λx=>ji n x⟩]
theorem BE (n:Nat):aK TZp (ac4 n):=bw Tryz.f67 (C8 n) (dr:=aeO) (js:=aeP n) (hT:=⟨.nil,K8 n,.nil,.nil,(.cc .nil)⟩)
def pq (n:Nat)(a0:ζ):M (ζ×Int):=sh (kQ n a0) λx0=>sh (aF none bQ [vi 0,vi 0,vi 0,vi 0,vi 0,vi 0,vi 0,vi 0,vi 0,vi 0,.int IntKind.u8 0]) λx1=>sh (bh (al x1) [vi x0.1.1,vi x0.1.2.1,vi x0.1.2.2.1,vi x0.1.2.2.2.1,vi x0.1.2.2.2.2.1,vi x0.1.2.2.2.2.2.1,vi x0.1.2.2.2.2.2.2.1,vi x0.1.2.2.2.2.2.2.2.1,vi x0.1.2.2.2.2.2.2.2.2.1,vi x0.1.2.2.2.2.2.2.2.2.2.1,.int IntKind.u8 x0.1.2.2.2.2.2.2.2.2.2.2]) λx2=>if !x0.2 then AI ((ofBytes []),3) else sh (aq (.int IntKind.u8) ((al x1).plus 10)) λ(x3:Int)=>if !decide (x3=0) then AI ((ofBytes []),3) else sh (aE [li,li,li,li,li,li,li,li,li,li,.int IntKind.u8] (al x1)) λ(x4:J11)=>sh (fj n (x4.1,x4.2.1,x4.2.2.1,x4.2.2.2.1,x4.2.2.2.2.1,x4.2.2.2.2.2.1,x4.2.2.2.2.2.2.1,x4.2.2.2.2.2.2.2.1,x4.2.2.2.2.2.2.2.2.1,x4.2.2.2.2.2.2.2.2.2.1,x4.2.2.2.2.2.2.2.2.2.2)) λx5=>if !x5 then AI ((ofBytes []),13) else sh (aE [li,li,li,li,li,li,li,li,li,li,.int IntKind.u8] (al x1)) λ(x6:J11)=>sh (fZ n (x6.1,x6.2.1,x6.2.2.1,x6.2.2.2.1,x6.2.2.2.2.1,x6.2.2.2.2.2.1,x6.2.2.2.2.2.2.1,x6.2.2.2.2.2.2.2.1,x6.2.2.2.2.2.2.2.2.1,x6.2.2.2.2.2.2.2.2.2.1,x6.2.2.2.2.2.2.2.2.2.2)) λx7=>AI (x7,0)
abbrev ac5 (n:Nat):dv:=⟨97,[qG],[qG,aw],λx=>pq n x⟩
theorem DB (n:Nat):aK TZp (ac5 n):=bw Tryz.f97 (C8 n) (hT:=.m1 (K8 n))
def wL (n:Nat)(a0 a1:ζ):M Int:=sh (nh n a0) λx0=>sh (aF none bW [.bool false,aO,vi 0]) λx1=>sh (bh (al x1) [.bool x0.1.1,aI x0.1.2.1,vi x0.1.2.2]) λx2=>sh (nh n a1) λx3=>sh (aF none bW [.bool false,aO,vi 0]) λx4=>sh (bh (al x4) [.bool x3.1.1,aI x3.1.2.1,vi x3.1.2.2]) λx5=>if !x0.2 then AI 0 else if !x3.2 then AI 0 else sh (aE [.bool,.sl,li] (al x1)) λ(x6:Bool×Sl×Int)=>sh (aE [.bool,.sl,li] (al x4)) λ(x7:Bool×Sl×Int)=>sh (qJ n (x6.1,x6.2.1,x6.2.2) (x7.1,x7.2.1,x7.2.2)) λx8=>AI x8
abbrev Xf (n:Nat):dv:=⟨135,[qG,qG],[aw],υ2 (wL n)⟩
theorem GO (n:Nat):aK TZp (Xf n):=bw Tryz.f135 (C8 n) (hT:=.m1 (K8 n))
abbrev C9 (n:Nat):List dv:=ac3 n::Xe n::ac4 n::ac5 n::Xf n::C8 n
theorem K9 (n:Nat):eE TZp (C9 n):=.cons (DA n) (.cons (HW n) (.cons (BE n) (.cons (DB n) (.cons (GO n) (K8 n)))))
def gE (n:Nat)(a0:ζ)(a1:Bool)(a2 a3:Int):M (Nat×Bool):=sh (vZ n (U6 a2) a3) λx0=>sh (uy n x0) λx1=>if !qE x1 a0 then AI (0,false) else if a1 then sh (kZ n x0 13830554455654793216) λx2=>AI (x2,true) else AI (x0,true)
def kR (n:Nat)(a0:ζ):M (Nat×Bool):=sh (strings_CutPrefix n a0 (ofBytes [45])) λx0=>if qE a0 (ofBytes [110,97,110]) then sh (zI n) λx1=>AI (x1,true) else if qE x0.1 (ofBytes [105,110,102]) then sh (vR n 1) λx1=>if x0.2 then sh (kZ n x1 13830554455654793216) λx2=>AI (x2,true) else AI (x1,true) else if qE x0.1 (ofBytes [48,112,48]) then if x0.2 then sh (kZ n 0 13830554455654793216) λx1=>AI (x1,true) else AI (0,true) else sh (strings_Cut n x0.1 (ofBytes [112])) λx1=>sh (eG n x1.1 10 64) λx2=>sh (strconv_Atoi n x1.2.1) λx3=>if !x1.2.2 then AI (0,false) else sh (ke x2.2) λx4=>if !x4 then AI (0,false) else sh (ke x3.2) λx5=>if !x5 then AI (0,false) else sh (mW n x2.1 x3.1) λx6=>if !x6 then AI (0,false) else gE n x0.1 x0.2 x2.1 x3.1
abbrev ac6 (n:Nat):dv:=⟨91,[qG],[.one (.f64),lS],λx=>kR n x⟩
abbrev aeQ (n:Nat):List (jm (Nat×Bool)):=[⟨[0,1,1,1,1,1,1,1,1,1,1,0,0,1,1,1],[.code [1,1,1,1,1,1,1,1,1,1,1,0,0,1,1,1],.au 0,.code [1,1,1,1]],[(4,qG),(5,lS),(10,.one (.int .u64)),(12,aw)],υ4 (gE n)⟩]
theorem EX (n:Nat):aK TZp (ac6 n):=bw Tryz.f91 (C9 n) (js:=aeQ n) (hT:=⟨.nil,K9 n,.nil,.nil,(.cc .nil)⟩)
def nB (n:Nat)(a0:ζ):M Int:=sh (pq n a0) λx0=>if !decide (x0.2=0) then AI 0 else if !qE x0.1 a0 then AI 0 else sh (kQ n a0) λx1=>sh (aF none bQ [vi 0,vi 0,vi 0,vi 0,vi 0,vi 0,vi 0,vi 0,vi 0,vi 0,.int IntKind.u8 0]) λx2=>sh (bh (al x2) [vi x1.1.1,vi x1.1.2.1,vi x1.1.2.2.1,vi x1.1.2.2.2.1,vi x1.1.2.2.2.2.1,vi x1.1.2.2.2.2.2.1,vi x1.1.2.2.2.2.2.2.1,vi x1.1.2.2.2.2.2.2.2.1,vi x1.1.2.2.2.2.2.2.2.2.1,vi x1.1.2.2.2.2.2.2.2.2.2.1,.int IntKind.u8 x1.1.2.2.2.2.2.2.2.2.2.2]) λx3=>sh (aq li ((al x2).plus 0)) λ(x4:Int)=>AI x4
abbrev ac7 (n:Nat):dv:=⟨68,[qG],[aw],λx=>nB n x⟩
theorem DC (n:Nat):aK TZp (ac7 n):=bw Tryz.f68 (C9 n) (hT:=.m1 (K9 n))
abbrev C10 (n:Nat):List dv:=ac6 n::ac7 n::C9 n
theorem K10 (n:Nat):eE TZp (C10 n):=.cons (EX n) (.cons (DC n) (K9 n))
def oU (n:Nat)(a0:ζ):M Bool:=sh (kR n a0) λx0=>AI x0.2
abbrev ac8 (n:Nat):dv:=⟨65,[qG],[lS],λx=>oU n x⟩
theorem EY (n:Nat):aK TZp (ac8 n):=bw Tryz.f65 (C10 n) (hT:=.m1 (K10 n))
def w9 (n a0 a1:Nat):M (Int×Bool):=if ZM a0 a1 then AI (-1,true) else if ZA a0 a1 then AI (1,true) else AI (0,true)
def ym (n:Nat)(a0 a1:ζ):M (Int×Bool):=sh (kR n a0) λx0=>sh (kR n a1) λx1=>if !x0.2 then AI (0,false) else if !x1.2 then AI (0,false) else if !Hw x0.1 x0.1 then AI (0,false) else if !Hw x1.1 x1.1 then AI (0,false) else w9 n x0.1 x1.1
abbrev Xg (n:Nat):dv:=⟨136,[qG,qG],[aw,lS],υ2 (ym n)⟩
abbrev aaY (n:Nat):List (jm (Int×Bool)):=[⟨[0,1,1,0,0,1,1,1],[.code [1,1,1,0,0,1,1,1],.au 0,.code [1,1,1,1]],[(6,.one (.f64)),(8,.one (.f64))],υ2 (w9 n)⟩]
theorem HX (n:Nat):aK TZp (Xg n):=bw Tryz.f136 (C10 n) (js:=aaY n) (hT:=⟨.nil,K10 n,.nil,.nil,(.cc .nil)⟩)
abbrev C11 (n:Nat):List dv:=ac8 n::Xg n::C10 n
theorem K11 (n:Nat):eE TZp (C11 n):=.cons (EY n) (.cons (HX n) (K10 n))
def oV (n:Nat)(a0:Int)(a1:ζ):M Bool:=if decide (a0=0) then AI (qE a1 (ofBytes [])) else if decide (a0=1) then if qE a1 (ofBytes [116,114,117,101]) then AI true else AI (qE a1 (ofBytes [102,97,108,115,101])) else if decide (a0=2) then sh (nA n a1) λx0=>AI x0 else if decide (a0=3) then sh (po n a1) λx0=>AI x0 else if decide (a0=4) then sh (oU n a1) λx0=>AI x0 else if decide (a0=5) then sh (ma n a1) λx0=>AI (decide (x0.2=0)) else if decide (a0=6) then AI true else if decide (a0=7) then sh (kq n a1) λx0=>if decide (x0.2=0) then AI (qE x0.1 a1) else AI false else if decide (a0=8) then sh (nB n a1) λx0=>AI !decide (x0=0) else AI false
abbrev ac9 (n:Nat):dv:=⟨44,[aw,qG],[lS],υ2 (oV n)⟩
theorem EZ (n:Nat):aK TZp (ac9 n):=bw Tryz.f44 (C11 n) (hT:=.m1 (K11 n))
def vd (n:Nat)(a0:Int)(a1 a2:ζ):M Int:=if qE a1 a2 then AI 0 else if decide (a0=2) then sh (wK n a1 a2) λx0=>AI x0 else if decide (a0=3) then sh (wL n a1 a2) λx0=>AI x0 else if decide (a0=4) then if qE a1 (ofBytes [110,97,110]) then AI 1 else if qE a2 (ofBytes [110,97,110]) then AI (-1) else sh (ym n a1 a2) λx0=>if !decide (x0.1=0) then AI x0.1 else if qE a1 (ofBytes [45,48,112,48]) then AI (-1) else AI 1 else sh (strings_Compare n a1 a2) λx0=>AI x0
abbrev Xh (n:Nat):dv:=⟨105,[aw,qG,qG],[aw],υ3 (vd n)⟩
theorem E4 (n:Nat):aK TZp (Xh n):=bw Tryz.f105 (C11 n) (hT:=.m1 (K11 n))
abbrev C12 (n:Nat):List dv:=ac9 n::Xh n::C11 n
theorem K12 (n:Nat):eE TZp (C12 n):=.cons (EZ n) (.cons (E4 n) (K11 n))
def tL (n:Nat)(a0:Int×ζ×Bool×Sl×Sl):M Bool:=sh (aF none aA [vi a0.1,.string a0.2.1,.bool a0.2.2.1,aI a0.2.2.2.1,aI a0.2.2.2.2]) λx0=>sh (aq li ((al x0).plus 0)) λ(x1:Int)=>if decide (x1=9) then sh (aq .str ((al x0).plus 1)) λ(x2:ζ)=>if qE x2 (ofBytes []) then sh (aq .bool ((al x0).plus 2)) λ(x3:Bool)=>if !x3 then sh (aq .sl ((al x0).plus 3)) λ(x4:Sl)=>AI (decide ((x4.len:Int)=0)) else AI false else AI false else if decide (x1=10) then sh (aq .str ((al x0).plus 1)) λ(x2:ζ)=>if qE x2 (ofBytes []) then sh (aq .sl ((al x0).plus 3)) λ(x3:Sl)=>sh (aq .sl ((al x0).plus 4)) λ(x4:Sl)=>AI (decide ((x3.len:Int)=(x4.len:Int))) else AI false else if decide (x1=11) then sh (aq .str ((al x0).plus 1)) λ(x2:ζ)=>sh (tF n x2) λx3=>if x3 then sh (aq .bool ((al x0).plus 2)) λ(x4:Bool)=>if !x4 then sh (aq .sl ((al x0).plus 3)) λ(x5:Sl)=>if decide ((x5.len:Int)=0) then sh (aq .sl ((al x0).plus 4)) λ(x6:Sl)=>AI (decide ((x6.len:Int)=1)) else AI false else AI false else AI false else sh (aq .bool ((al x0).plus 2)) λ(x2:Bool)=>if !x2 then sh (aq .sl ((al x0).plus 3)) λ(x3:Sl)=>if decide ((x3.len:Int)=0) then sh (aq .sl ((al x0).plus 4)) λ(x4:Sl)=>if decide ((x4.len:Int)=0) then sh (aq li ((al x0).plus 0)) λ(x5:Int)=>sh (aq .str ((al x0).plus 1)) λ(x6:ζ)=>sh (oV n x5 x6) λx7=>AI x7 else AI false else AI false else AI false
abbrev ada (n:Nat):dv:=⟨25,[.agg [.int .i64,.str,.bool,.sl,.sl]],[lS],λx=>tL n x⟩
theorem HY (n:Nat):aK TZp (ada n):=bw Tryz.f25 (C12 n) (hT:=.m1 (K12 n))
structure af where
 cp:Sl->ξ->M Unit
 fS:Int->Addr->Addr->Sl->Int->Int->M Unit
 ea:θ->Int->M Sl
 bH:Sl->Int->Int->Int->ξ->Bool->Bool->M Unit
 du:Sl->Int->Int->Int->ξ->M Unit
 aP:Int->Int->Addr->Addr->M Int
 ij:θ->Int->θ->Int->μ->M Int
 bT:Sl->Int->Int->ξ->Int->Int->M Unit
 bU:Sl->Int->Int->ξ->Int->M Unit
 dV:Sl->Int->Int->ξ->M Unit
 de:Sl->ξ->Int->Int->Int->Int->M Unit
 dh:Sl->ξ->Int->Int->Int->M Unit
 fK:Sl->Int->Int->ξ->M Unit
 eL:Sl->Int->Int->ξ->M (Int×Int)
 bI:Sl->Int->Int->ξ->Int->Int->Int->M Unit
 bJ:Sl->Int->Int->ξ->Int->Int->Int->M Unit
 bt:Sl->Int->Int->ξ->Int->Int->M Int
 bu:Sl->Int->Int->ξ->Int->Int->M (Unit⊕Bool)
 bZ:Sl->Int->Int->ξ->M Bool
 bK:Sl->Int->ξ->Int->Int->M Int
 bL:Sl->Int->ξ->Int->Int->M Int
 bM:Sl->Int->ξ->Int->Int->M Int
 dI:Sl->Int->Int->Int->ξ->M Int
 cM:Sl->Int->ξ->Int->Int->M Int
 cN:Sl->Int->ξ->Int->Int->M Int
 cO:Sl->Int->ξ->Int->Int->M Int
 cP:Sl->Int->ξ->Int->Int->M Int
 cQ:Sl->Int->ξ->Int->Int->M Int
 fB:Sl->Int->Int->Int->ξ->M (Int×Bool)
 iZ:θ->θ->μ->θ->θ->Sl->Sl->Int->Int->M (Unit⊕Int)
 oW:θ->Int->θ->Int->μ->M Int
 di:Sl->Int->Int->ξ->Int->M (Unit⊕Unit)
 eC:Sl->Int->Int->Int->ξ->M Unit
 cq:Sl->Int->θ->ξ->M Int
 dN:Sl->Int->Int->Int->θ->ξ->M Int
 dO:Sl->Int->Int->θ->ξ->M (Int×Int)
def ax (G:af)(n:Nat)(x:ξ)(a0 a1:Int):M Int:=if qo kI x then sh (k7 [aB,aB] x) λ(c:Addr×Addr)=>aH n a0 a1 c.1 c.2 else if qo jX x then sh (k7 [aB,aB] x) λ(c:Addr×Addr)=>G.aP a0 a1 c.1 c.2 else AS
abbrev j8:=ax
abbrev gX:=ax
abbrev gY:=ax
abbrev gG:=ax
abbrev jK:=ax
abbrev jL:=ax
abbrev lT:=ax
abbrev lU:=ax
abbrev lI:=ax
abbrev lJ:=ax
abbrev ni:=ax
abbrev nj:=ax
abbrev om:=ax
def lY (G:af)(n:Nat)(a0:Sl)(a1:ξ):M Unit:=sh (qv n (IntKind.u64.wrap (a0.len:Int))) λx0=>sh (G.du a0 0 (a0.len:Int) x0 a1) λx1=>AI ()
def nC (G:af)(n:Nat)(a0:Int)(a1 a2:Addr)(a3:Sl)(a4 a5:Int):M Unit:=if decide (a5<a4) then sh (ar a3 a5 1) λx0=>sh (bh x0 [vi a5]) λx1=>G.fS a0 a1 a2 a3 a4 (i64.wrap (a5+1)) else AI ()
def nD (G:af)(n:Nat)(a0:Int)(a1 a2:Addr)(a3:Sl):M Sl:=sh (G.cp a3 (Value.func (Fn.func jX) #[] #[.pointer (some a1),.pointer (some a2)])) λx0=>sh (aq .ptr a1) λ(x1:θ)=>sh (nn x1) λx2=>sh (aq .sl (x2.plus 2)) λ(x3:Sl)=>sh (ar x3 a0 1) λx4=>sh (bh x4 [aI a3]) λx5=>AI a3
def pC (G:af)(n:Nat)(a0:θ)(a1:Int):M Sl:=sh (aF none bF [.pointer a0]) λx0=>sh (aq .ptr (al x0)) λ(x1:θ)=>sh (nn x1) λx2=>sh (aq .sl ((x2.plus 0).plus 0)) λ(x3:Sl)=>sh (ar x3 a1 5) λx4=>sh (aF none fM [.pointer none]) λx5=>sh (bh (al x5) [.pointer (some x4)]) λx6=>sh (aq .ptr (al x0)) λ(x7:θ)=>sh (nn x7) λx8=>sh (aq .sl (x8.plus 2)) λ(x9:Sl)=>sh (ar x9 a1 1) λfD=>sh (aq .sl fD) λ(x11:Sl)=>if !x11.a.isNone then sh (aq .ptr (al x0)) λ(x12:θ)=>sh (nn x12) λx13=>sh (aq .sl (x13.plus 2)) λ(jj:Sl)=>sh (ar jj a1 1) λx15=>sh (aq .sl x15) λ(rz:Sl)=>AI rz else sh (aq .ptr (al x5)) λ(x12:θ)=>sh (nn x12) λx13=>sh (aq .sl (x13.plus 4)) λ(jj:Sl)=>sh (qM none an [vi 0] (jj.len:Int) (jj.len:Int)) λx15=>sh (G.fS a1 (al x0) (al x5) x15 (x15.len:Int) 0) λrz=>sh (aq .ptr (al x5)) λ(x17:θ)=>sh (nn x17) λvB=>sh (aq li (vB.plus 0)) λ(x19:Int)=>if decide (x19=10) then sh (aq .ptr (al x5)) λ(x20:θ)=>sh (nn x20) λx21=>sh (aq .bool (x21.plus 2)) λ(x22:Bool)=>if !x22 then nD G n a1 (al x0) (al x5) x15 else sh (aq .ptr (al x0)) λ(x23:θ)=>sh (nn x23) λx24=>sh (aq .sl (x24.plus 2)) λ(x25:Sl)=>sh (ar x25 a1 1) λx26=>sh (bh x26 [aI x15]) λx27=>AI x15 else sh (aq .ptr (al x0)) λ(x20:θ)=>sh (nn x20) λx21=>sh (aq .sl (x21.plus 2)) λ(x22:Sl)=>sh (ar x22 a1 1) λx23=>sh (bh x23 [aI x15]) λx24=>AI x15
def dm (G:af)(n:Nat)(a0:Sl)(a1 a2 a3:Int)(a4:ξ)(a5 a6:Bool)(a7 a8:Int):M Unit:=sh (G.fB a0 a1 a2 a8 a4) λx0=>sh (px (decide (8≠0))) λx1=>if decide (i64.wrap (x0.1-a1)<i64.wrap (a2-x0.1)) then sh (G.du a0 a1 x0.1 a3 a4) λx2=>G.bH a0 (i64.wrap (x0.1+1)) a2 a3 a4 (decide (i64.wrap (a7.tdiv 8)<=i64.wrap (x0.1-a1))) x0.2 else sh (G.du a0 (i64.wrap (x0.1+1)) a2 a3 a4) λx2=>G.bH a0 a1 x0.1 a3 a4 (decide (i64.wrap (a7.tdiv 8)<=i64.wrap (a2-x0.1))) x0.2
def bD (G:af)(n:Nat)(a0:Sl)(a1 a2 a3:Int)(a4:ξ)(a5 a6:Bool)(a7 a8:Int):M Unit:=if decide (0<a1) then sh (ar a0 (i64.wrap (a1-1)) 1) λx0=>sh (ar a0 a8 1) λx1=>sh (aq li x0) λ(x2:Int)=>sh (aq li x1) λ(x3:Int)=>sh (ax G n a4 x2 x3) λx4=>if !decide (x4<0) then sh (G.dI a0 a1 a2 a8 a4) λx5=>G.bH a0 x5 a2 a3 a4 a5 a6 else dm G n a0 a1 a2 a3 a4 a5 a6 a7 a8 else dm G n a0 a1 a2 a3 a4 a5 a6 a7 a8
def dn (G:af)(n:Nat)(a0:Sl)(a1 a2 a3:Int)(a4:ξ)(a5 a6:Bool)(a7 a8 a9:Int):M Unit:=if a5 then if a6 then if decide (a9=1) then sh (G.bZ a0 a1 a2 a4) λx0=>if x0 then AI () else bD G n a0 a1 a2 a3 a4 a5 a6 a7 a8 else bD G n a0 a1 a2 a3 a4 a5 a6 a7 a8 else bD G n a0 a1 a2 a3 a4 a5 a6 a7 a8 else bD G n a0 a1 a2 a3 a4 a5 a6 a7 a8
def dq (G:af)(n:Nat)(a0:Sl)(a1 a2 a3:Int)(a4:ξ)(a5 a6:Bool)(a7:Int):M Unit:=sh (G.eL a0 a1 a2 a4) λx0=>if decide (x0.2=2) then sh (fQ n a0 a1 a2 a4) λx1=>dn G n a0 a1 a2 a3 a4 a5 a6 a7 (i64.wrap (i64.wrap (a2-1)-i64.wrap (x0.1-a1))) 1 else dn G n a0 a1 a2 a3 a4 a5 a6 a7 x0.1 x0.2
def eB (G:af)(n:Nat)(a0:Sl)(a1 a2 a3:Int)(a4:ξ)(a5 a6:Bool):M Unit:=if decide (i64.wrap (a2-a1)<=12) then sh (G.dV a0 a1 a2 a4) λx0=>AI () else if decide (a3=0) then sh (G.fK a0 a1 a2 a4) λx0=>AI () else if !a5 then sh (fG n a0 a1 a2 a4) λx0=>dq G n a0 a1 a2 (i64.wrap (a3-1)) a4 a5 a6 (i64.wrap (a2-a1)) else dq G n a0 a1 a2 a3 a4 a5 a6 (i64.wrap (a2-a1))
def fA (G:af)(n:Nat)(a0:Sl)(a1 a2 a3:Int)(a4:ξ):M Unit:=sh (G.bH a0 a1 a2 a3 a4 true true) λx0=>AI ()
def oq (G:af)(n:Nat)(a0 a1:Int)(a2 a3:Addr):M Int:=sh (aq .ptr a2) λ(x0:θ)=>sh (aq .ptr a3) λ(x1:θ)=>sh (nn x1) λx2=>sh (aq .sl (x2.plus 3)) λ(x3:Sl)=>sh (ar x3 a0 1) λx4=>sh (aq li x4) λ(x5:Int)=>sh (aq .ptr a2) λ(x6:θ)=>sh (aq .ptr a3) λ(x7:θ)=>sh (nn x7) λx8=>sh (aq .sl (x8.plus 3)) λ(x9:Sl)=>sh (ar x9 a1 1) λfD=>sh (aq li fD) λ(x11:Int)=>sh (G.ij x0 x5 x6 x11 none) λx12=>AI x12
def o8 (G:af)(n:Nat)(a0:θ)(a1:Int)(a2:θ)(a3:Int)(a4:μ):M Int:=sh (um vx (Ty.one li) 0 a4 (Value.agg #[vi a1,vi a3])) λ(x0:Bool×Int)=>if x0.1 then AI x0.2 else sh (G.oW a0 a1 a2 a3 a4) λx1=>if !a4.isNone then sh (FN vx a4 (Value.agg #[vi a1,vi a3]) (vi x1)) λx2=>AI x1 else AI x1
def fF (G:af)(n:Nat)(a0:Sl)(a1 a2:Int)(a3:ξ)(a4 a5:Int):M Unit:=sh (ar a0 (i64.wrap (a5-1)) 1) λx0=>sh (ar a0 a5 1) λx1=>sh (aq li x0) λ(x2:Int)=>sh (aq li x1) λ(x3:Int)=>sh (ar a0 a5 1) λx4=>sh (bh x4 [vi x2]) λx5=>sh (ar a0 (i64.wrap (a5-1)) 1) λx6=>sh (bh x6 [vi x3]) λx7=>G.bT a0 a1 a2 a3 a4 (i64.wrap (a5-1))
def cB (G:af)(n:Nat)(a0:Sl)(a1 a2:Int)(a3:ξ)(a4 a5:Int):M Unit:=if decide (a1<a5) then sh (ar a0 a5 1) λx0=>sh (ar a0 (i64.wrap (a5-1)) 1) λx1=>sh (aq li x0) λ(x2:Int)=>sh (aq li x1) λ(x3:Int)=>sh (j8 G n a3 x2 x3) λx4=>if decide (x4<0) then fF G n a0 a1 a2 a3 a4 a5 else AI () else AI ()
def cC (G:af)(n:Nat)(a0:Sl)(a1 a2:Int)(a3:ξ)(a4:Int):M Unit:=if decide (a4<a2) then sh (G.bT a0 a1 a2 a3 a4 a4) λx0=>G.bU a0 a1 a2 a3 (i64.wrap (a4+1)) else AI ()
def hS (G:af)(n:Nat)(a0:Sl)(a1 a2:Int)(a3:ξ):M Unit:=sh (G.bU a0 a1 a2 a3 (i64.wrap (a1+1))) λx0=>AI ()
def dS (G:af)(n:Nat)(a0:Sl)(a1:ξ)(a2 a3 a4 a5:Int):M Unit:=if decide (0<=a5) then sh (G.eC a0 a5 a4 a2 a1) λx0=>G.de a0 a1 a2 a3 a4 (i64.wrap (a5-1)) else AI ()
def dT (G:af)(n:Nat)(a0:Sl)(a1:ξ)(a2 a3 a4:Int):M Unit:=if decide (0<=a4) then sh (ar a0 (i64.wrap (a2+a4)) 1) λx0=>sh (ar a0 a2 1) λx1=>sh (aq li x0) λ(x2:Int)=>sh (aq li x1) λ(x3:Int)=>sh (ar a0 a2 1) λx4=>sh (bh x4 [vi x2]) λx5=>sh (ar a0 (i64.wrap (a2+a4)) 1) λx6=>sh (bh x6 [vi x3]) λx7=>sh (G.eC a0 a3 a4 a2 a1) λx8=>G.dh a0 a1 a2 a3 (i64.wrap (a4-1)) else AI ()
def kr (G:af)(n:Nat)(a0:Sl)(a1 a2:Int)(a3:ξ):M Unit:=sh (px (decide (2≠0))) λx0=>sh (G.de a0 a3 a1 0 (i64.wrap (a2-a1)) (i64.wrap ((i64.wrap (i64.wrap (a2-a1)-1)).tdiv 2))) λx1=>sh (G.dh a0 a3 a1 0 (i64.wrap (i64.wrap (a2-a1)-1))) λx2=>AI ()
def bR (G:af)(n:Nat)(a0:Addr)(a1:Int):M (Int×Int):=sh (aq li a0) λ(x0:Int)=>if decide (x0=0) then AI (a1,1) else if decide (x0=12) then AI (a1,2) else AI (a1,0)
def jb (G:af)(n:Nat)(a0:Sl)(a1 a2:Int)(a3:ξ):M (Int×Int):=sh (aF none an [vi 0]) λx0=>sh (px (decide (4≠0))) λx1=>sh (px (decide (4≠0))) λx2=>sh (px (decide (4≠0))) λx3=>if decide (8<=i64.wrap (a2-a1)) then if decide (50<=i64.wrap (a2-a1)) then sh (G.cq a0 (i64.wrap (a1+i64.wrap (i64.wrap ((i64.wrap (a2-a1)).tdiv 4)*1))) (some (al x0)) a3) λx4=>sh (G.cq a0 (i64.wrap (a1+i64.wrap (i64.wrap ((i64.wrap (a2-a1)).tdiv 4)*2))) (some (al x0)) a3) λx5=>sh (G.cq a0 (i64.wrap (a1+i64.wrap (i64.wrap ((i64.wrap (a2-a1)).tdiv 4)*3))) (some (al x0)) a3) λx6=>sh (G.dN a0 x4 x5 x6 (some (al x0)) a3) λx7=>bR G n (al x0) x7 else sh (G.dN a0 (i64.wrap (a1+i64.wrap (i64.wrap ((i64.wrap (a2-a1)).tdiv 4)*1))) (i64.wrap (a1+i64.wrap (i64.wrap ((i64.wrap (a2-a1)).tdiv 4)*2))) (i64.wrap (a1+i64.wrap (i64.wrap ((i64.wrap (a2-a1)).tdiv 4)*3))) (some (al x0)) a3) λx4=>bR G n (al x0) x4 else bR G n (al x0) (i64.wrap (a1+i64.wrap (i64.wrap ((i64.wrap (a2-a1)).tdiv 4)*2)))
def oE (G:af)(n:Nat)(a0:Sl)(a1 a2:Int)(a3:ξ)(a4 a5 a6:Int):M Unit:=if decide (1<=a6) then sh (ar a0 a6 1) λx0=>sh (ar a0 (i64.wrap (a6-1)) 1) λx1=>sh (aq li x0) λ(x2:Int)=>sh (aq li x1) λ(x3:Int)=>sh (gY G n a3 x2 x3) λx4=>if !decide (x4<0) then AI () else sh (ar a0 (i64.wrap (a6-1)) 1) λx5=>sh (ar a0 a6 1) λx6=>sh (aq li x5) λ(x7:Int)=>sh (aq li x6) λ(x8:Int)=>sh (ar a0 a6 1) λx9=>sh (bh x9 [vi x7]) λfD=>sh (ar a0 (i64.wrap (a6-1)) 1) λx11=>sh (bh x11 [vi x8]) λx12=>G.bI a0 a1 a2 a3 a4 a5 (i64.wrap (a6-1)) else AI ()
def oF (G:af)(n:Nat)(a0:Sl)(a1 a2:Int)(a3:ξ)(a4 a5 a6:Int):M Unit:=if decide (a6<a2) then sh (ar a0 a6 1) λx0=>sh (ar a0 (i64.wrap (a6-1)) 1) λx1=>sh (aq li x0) λ(x2:Int)=>sh (aq li x1) λ(x3:Int)=>sh (gG G n a3 x2 x3) λx4=>if !decide (x4<0) then AI () else sh (ar a0 (i64.wrap (a6-1)) 1) λx5=>sh (ar a0 a6 1) λx6=>sh (aq li x5) λ(x7:Int)=>sh (aq li x6) λ(x8:Int)=>sh (ar a0 a6 1) λx9=>sh (bh x9 [vi x7]) λfD=>sh (ar a0 (i64.wrap (a6-1)) 1) λx11=>sh (bh x11 [vi x8]) λx12=>G.bJ a0 a1 a2 a3 a4 a5 (i64.wrap (a6+1)) else AI ()
def bE (G:af)(n:Nat)(a0:Sl)(a1 a2:Int)(a3:ξ)(a4 a5:Int):M Int:=if decide (a4<a2) then sh (ar a0 a4 1) λx0=>sh (ar a0 (i64.wrap (a4-1)) 1) λx1=>sh (aq li x0) λ(x2:Int)=>sh (aq li x1) λ(x3:Int)=>sh (gX G n a3 x2 x3) λx4=>if !decide (x4<0) then G.bt a0 a1 a2 a3 (i64.wrap (a4+1)) a5 else AI a4 else AI a4
def dL (G:af)(n:Nat)(a0:Sl)(a1 a2:Int)(a3:ξ)(a4 a5:Int):M (Unit⊕Bool):=if decide (2<=i64.wrap (a2-a4)) then sh (G.bJ a0 a1 a2 a3 a4 a5 (i64.wrap (a4+1))) λx0=>G.bu a0 a1 a2 a3 a4 (i64.wrap (a5+1)) else G.bu a0 a1 a2 a3 a4 (i64.wrap (a5+1))
def eJ (G:af)(n:Nat)(a0:Sl)(a1 a2:Int)(a3:ξ)(a4 a5:Int):M (Unit⊕Bool):=if decide (a5<5) then sh (G.bt a0 a1 a2 a3 a4 a5) λx0=>if decide (x0=a2) then AI (Sum.inr true) else if decide (i64.wrap (a2-a1)<50) then AI (Sum.inr false) else sh (ar a0 (i64.wrap (x0-1)) 1) λx1=>sh (ar a0 x0 1) λx2=>sh (aq li x1) λ(x3:Int)=>sh (aq li x2) λ(x4:Int)=>sh (ar a0 x0 1) λx5=>sh (bh x5 [vi x3]) λx6=>sh (ar a0 (i64.wrap (x0-1)) 1) λx7=>sh (bh x7 [vi x4]) λx8=>if decide (2<=i64.wrap (x0-a1)) then sh (G.bI a0 a1 a2 a3 x0 a5 (i64.wrap (x0-1))) λx9=>dL G n a0 a1 a2 a3 x0 a5 else dL G n a0 a1 a2 a3 x0 a5 else AI (Sum.inl ())
def fk (G:af)(n:Nat)(a0:Sl)(a1 a2:Int)(a3:ξ):M Bool:=sh (G.bu a0 a1 a2 a3 (i64.wrap (a1+1)) 0) (cz (λx0=>AI false) (λx0=>AI x0))
def cd (G:af)(n:Nat)(a0:Sl)(a1:Int)(a2:ξ)(a3 a4:Int):M Int:=if decide (a3<=a4) then sh (ar a0 a1 1) λx0=>sh (ar a0 a4 1) λx1=>sh (aq li x0) λ(x2:Int)=>sh (aq li x1) λ(x3:Int)=>sh (jL G n a2 x2 x3) λx4=>if decide (x4<0) then G.bK a0 a1 a2 a3 (i64.wrap (a4-1)) else AI a4 else AI a4
def cm (G:af)(n:Nat)(a0:Sl)(a1:Int)(a2:ξ)(a3 a4:Int):M Int:=if decide (a3<=a4) then sh (ar a0 a1 1) λx0=>sh (ar a0 a3 1) λx1=>sh (aq li x0) λ(x2:Int)=>sh (aq li x1) λ(x3:Int)=>sh (jK G n a2 x2 x3) λx4=>if !decide (x4<0) then G.bL a0 a1 a2 (i64.wrap (a3+1)) a4 else AI a3 else AI a3
def cn (G:af)(n:Nat)(a0:Sl)(a1:Int)(a2:ξ)(a3 a4:Int):M Int:=sh (G.bL a0 a1 a2 a3 a4) λx0=>sh (G.bK a0 a1 a2 x0 a4) λx1=>if decide (x1<x0) then AI x0 else sh (ar a0 x1 1) λx2=>sh (ar a0 x0 1) λx3=>sh (aq li x2) λ(x4:Int)=>sh (aq li x3) λ(x5:Int)=>sh (ar a0 x0 1) λx6=>sh (bh x6 [vi x4]) λx7=>sh (ar a0 x1 1) λx8=>sh (bh x8 [vi x5]) λx9=>G.bM a0 a1 a2 (i64.wrap (x0+1)) (i64.wrap (x1-1))
def gL (G:af)(n:Nat)(a0:Sl)(a1 a2 a3:Int)(a4:ξ):M Int:=sh (ar a0 a3 1) λx0=>sh (ar a0 a1 1) λx1=>sh (aq li x0) λ(x2:Int)=>sh (aq li x1) λ(x3:Int)=>sh (ar a0 a1 1) λx4=>sh (bh x4 [vi x2]) λx5=>sh (ar a0 a3 1) λx6=>sh (bh x6 [vi x3]) λx7=>sh (G.bM a0 a1 a4 (i64.wrap (a1+1)) (i64.wrap (a2-1))) λx8=>AI x8
def dD (G:af)(n:Nat)(a0:Sl)(a1:Int)(a2:ξ)(a3 a4:Int):M Int:=if decide (a3<=a4) then sh (ar a0 a4 1) λx0=>sh (ar a0 a1 1) λx1=>sh (aq li x0) λ(x2:Int)=>sh (aq li x1) λ(x3:Int)=>sh (lJ G n a2 x2 x3) λx4=>if !decide (x4<0) then G.cM a0 a1 a2 a3 (i64.wrap (a4-1)) else AI a4 else AI a4
def dE (G:af)(n:Nat)(a0:Sl)(a1:Int)(a2:ξ)(a3 a4:Int):M Int:=if decide (a3<=a4) then sh (ar a0 a3 1) λx0=>sh (ar a0 a1 1) λx1=>sh (aq li x0) λ(x2:Int)=>sh (aq li x1) λ(x3:Int)=>sh (lI G n a2 x2 x3) λx4=>if decide (x4<0) then G.cN a0 a1 a2 (i64.wrap (a3+1)) a4 else AI a3 else AI a3
def dF (G:af)(n:Nat)(a0:Sl)(a1:Int)(a2:ξ)(a3 a4:Int):M Int:=sh (G.cN a0 a1 a2 a3 a4) λx0=>sh (G.cM a0 a1 a2 x0 a4) λx1=>if decide (x1<x0) then AI x1 else sh (ar a0 x1 1) λx2=>sh (ar a0 x0 1) λx3=>sh (aq li x2) λ(x4:Int)=>sh (aq li x3) λ(x5:Int)=>sh (ar a0 x0 1) λx6=>sh (bh x6 [vi x4]) λx7=>sh (ar a0 x1 1) λx8=>sh (bh x8 [vi x5]) λx9=>G.cO a0 a1 a2 (i64.wrap (x0+1)) (i64.wrap (x1-1))
def dG (G:af)(n:Nat)(a0:Sl)(a1:Int)(a2:ξ)(a3 a4:Int):M Int:=if decide (a3<=a4) then sh (ar a0 a4 1) λx0=>sh (ar a0 a1 1) λx1=>sh (aq li x0) λ(x2:Int)=>sh (aq li x1) λ(x3:Int)=>sh (lU G n a2 x2 x3) λx4=>if !decide (x4<0) then G.cP a0 a1 a2 a3 (i64.wrap (a4-1)) else AI a4 else AI a4
def dH (G:af)(n:Nat)(a0:Sl)(a1:Int)(a2:ξ)(a3 a4:Int):M Int:=if decide (a3<=a4) then sh (ar a0 a3 1) λx0=>sh (ar a0 a1 1) λx1=>sh (aq li x0) λ(x2:Int)=>sh (aq li x1) λ(x3:Int)=>sh (lT G n a2 x2 x3) λx4=>if decide (x4<0) then G.cQ a0 a1 a2 (i64.wrap (a3+1)) a4 else AI a3 else AI a3
def jM (G:af)(n:Nat)(a0:Sl)(a1 a2 a3:Int)(a4:ξ):M (Int×Bool):=sh (ar a0 a3 1) λx0=>sh (ar a0 a1 1) λx1=>sh (aq li x0) λ(x2:Int)=>sh (aq li x1) λ(x3:Int)=>sh (ar a0 a1 1) λx4=>sh (bh x4 [vi x2]) λx5=>sh (ar a0 a3 1) λx6=>sh (bh x6 [vi x3]) λx7=>sh (G.cQ a0 a1 a4 (i64.wrap (a1+1)) (i64.wrap (a2-1))) λx8=>sh (G.cP a0 a1 a4 x8 (i64.wrap (a2-1))) λx9=>if decide (x9<x8) then sh (ar a0 a1 1) λfD=>sh (ar a0 x9 1) λx11=>sh (aq li fD) λ(x12:Int)=>sh (aq li x11) λ(x13:Int)=>sh (ar a0 x9 1) λjj=>sh (bh jj [vi x12]) λx15=>sh (ar a0 a1 1) λrz=>sh (bh rz [vi x13]) λx17=>AI (x9,true) else sh (ar a0 x9 1) λfD=>sh (ar a0 x8 1) λx11=>sh (aq li fD) λ(x12:Int)=>sh (aq li x11) λ(x13:Int)=>sh (ar a0 x8 1) λjj=>sh (bh jj [vi x12]) λx15=>sh (ar a0 x9 1) λrz=>sh (bh rz [vi x13]) λx17=>sh (G.cO a0 a1 a4 (i64.wrap (x8+1)) (i64.wrap (x9-1))) λvB=>sh (ar a0 a1 1) λx19=>sh (ar a0 vB 1) λx20=>sh (aq li x19) λ(x21:Int)=>sh (aq li x20) λ(x22:Int)=>sh (ar a0 vB 1) λx23=>sh (bh x23 [vi x21]) λx24=>sh (ar a0 a1 1) λx25=>sh (bh x25 [vi x22]) λx26=>AI (vB,false)
def fJ (G:af)(n:Nat)(a0 a1:θ)(a2:μ)(a3 a4:θ)(a5 a6:Sl)(a7 a8 a9:Int):M (Unit⊕Int):=sh (nn a3) λx0=>sh (ar a5 a7 1) λx1=>sh (nn a4) λx2=>sh (ar a6 a7 1) λx3=>sh (aq .sl (x0.plus 4)) λ(x4:Sl)=>sh (aq li x1) λ(x5:Int)=>sh (ar x4 x5 1) λx6=>sh (aq li x6) λ(x7:Int)=>sh (aq .sl (x2.plus 4)) λ(x8:Sl)=>sh (aq li x3) λ(x9:Int)=>sh (ar x8 x9 1) λfD=>sh (aq li fD) λ(x11:Int)=>sh (G.ij a0 x7 a1 x11 a2) λx12=>if !decide (x12=0) then AI (Sum.inr x12) else G.iZ a0 a1 a2 a3 a4 a5 a6 a8 (i64.wrap (a9+1))
def np (G:af)(n:Nat)(a0 a1:θ)(a2:μ)(a3 a4:θ)(a5 a6:Sl)(a7 a8:Int):M (Unit⊕Int):=if decide (a8<a7) then sh (nn a3) λx0=>sh (aq li (x0.plus 0)) λ(x1:Int)=>if decide (x1=10) then sh (nn a3) λx2=>sh (ar a5 a8 1) λx3=>sh (nn a4) λx4=>sh (ar a6 a8 1) λx5=>sh (aq .sl (x2.plus 3)) λ(x6:Sl)=>sh (aq li x3) λ(x7:Int)=>sh (ar x6 x7 1) λx8=>sh (aq li x8) λ(x9:Int)=>sh (aq .sl (x4.plus 3)) λ(fD:Sl)=>sh (aq li x5) λ(x11:Int)=>sh (ar fD x11 1) λx12=>sh (aq li x12) λ(x13:Int)=>sh (G.ij a0 x9 a1 x13 none) λjj=>if !decide (jj=0) then AI (Sum.inr jj) else fJ G n a0 a1 a2 a3 a4 a5 a6 a8 a7 a8 else fJ G n a0 a1 a2 a3 a4 a5 a6 a8 a7 a8 else AI (Sum.inl ())
def pO (G:af)(n:Nat)(a0:θ)(a1:Int)(a2:θ)(a3:Int)(a4:μ):M Int:=sh (nn a0) λx0=>sh (nn a2) λx1=>sh (aq .sl ((x0.plus 0).plus 0)) λ(x2:Sl)=>sh (ar x2 a1 5) λx3=>sh (aq .sl ((x1.plus 0).plus 0)) λ(x4:Sl)=>sh (ar x4 a3 5) λx5=>sh (nn (some x3)) λx6=>sh (nn (some x5)) λx7=>sh (aq li (x6.plus 0)) λ(x8:Int)=>sh (aq li (x7.plus 0)) λ(x9:Int)=>if decide (x8<x9) then AI (-1) else sh (nn (some x3)) λfD=>sh (nn (some x5)) λx11=>sh (aq li (fD.plus 0)) λ(x12:Int)=>sh (aq li (x11.plus 0)) λ(x13:Int)=>if decide (x13<x12) then AI 1 else sh (nn (some x3)) λjj=>sh (nn (some x5)) λx15=>sh (aq .bool (jj.plus 2)) λ(rz:Bool)=>sh (aq .bool (x15.plus 2)) λ(x17:Bool)=>if !rz==x17 then sh (nn (some x5)) λvB=>sh (aq .bool (vB.plus 2)) λ(x19:Bool)=>if x19 then AI (-1) else AI 1 else sh (nn (some x3)) λvB=>sh (nn (some x3)) λx19=>sh (nn (some x5)) λx20=>sh (aq li (vB.plus 0)) λ(x21:Int)=>sh (aq .str (x19.plus 1)) λ(x22:ζ)=>sh (aq .str (x20.plus 1)) λ(x23:ζ)=>sh (vd n x21 x22 x23) λx24=>if !decide (x24=0) then AI x24 else sh (G.ea a0 a1) λx25=>sh (G.ea a2 a3) λx26=>sh (G.iZ a0 a2 a4 (some x3) (some x5) x25 x26 (if (x26.len:Int)<(x25.len:Int) then (x26.len:Int) else (x25.len:Int)) 0) (cz (λx27=>if decide ((x25.len:Int)<(x26.len:Int)) then AI (-1) else if decide ((x26.len:Int)<(x25.len:Int)) then AI 1 else AI 0) (λx27=>AI x27))
def bS (G:af)(n:Nat)(a0:Sl)(a1 a2:Int)(a3:ξ)(a4 a5:Int):M (Unit⊕Unit):=sh (ar a0 (i64.wrap (a2+a4)) 1) λx0=>sh (ar a0 (i64.wrap (a2+a5)) 1) λx1=>sh (aq li x0) λ(x2:Int)=>sh (aq li x1) λ(x3:Int)=>sh (nj G n a3 x2 x3) λx4=>if !decide (x4<0) then AI (Sum.inr ()) else sh (ar a0 (i64.wrap (a2+a5)) 1) λx5=>sh (ar a0 (i64.wrap (a2+a4)) 1) λx6=>sh (aq li x5) λ(x7:Int)=>sh (aq li x6) λ(x8:Int)=>sh (ar a0 (i64.wrap (a2+a4)) 1) λx9=>sh (bh x9 [vi x7]) λfD=>sh (ar a0 (i64.wrap (a2+a5)) 1) λx11=>sh (bh x11 [vi x8]) λx12=>G.di a0 a1 a2 a3 a5
def dU (G:af)(n:Nat)(a0:Sl)(a1 a2:Int)(a3:ξ)(a4:Int):M (Unit⊕Unit):=if decide (a1<=i64.wrap (i64.wrap (2*a4)+1)) then AI (Sum.inl ()) else if decide (i64.wrap (i64.wrap (i64.wrap (2*a4)+1)+1)<a1) then sh (ar a0 (i64.wrap (a2+i64.wrap (i64.wrap (2*a4)+1))) 1) λx0=>sh (ar a0 (i64.wrap (i64.wrap (a2+i64.wrap (i64.wrap (2*a4)+1))+1)) 1) λx1=>sh (aq li x0) λ(x2:Int)=>sh (aq li x1) λ(x3:Int)=>sh (ni G n a3 x2 x3) λx4=>if decide (x4<0) then bS G n a0 a1 a2 a3 a4 (i64.wrap (i64.wrap (i64.wrap (2*a4)+1)+1)) else bS G n a0 a1 a2 a3 a4 (i64.wrap (i64.wrap (2*a4)+1)) else bS G n a0 a1 a2 a3 a4 (i64.wrap (i64.wrap (2*a4)+1))
def kA (G:af)(n:Nat)(a0:Sl)(a1 a2 a3:Int)(a4:ξ):M Unit:=sh (G.di a0 a2 a3 a4 a1) (cz (λx0=>AI ()) (λx0=>AI ()))
def qU (G:af)(n:Nat)(a0:Sl)(a1:Int)(a2:θ)(a3:ξ):M Int:=sh (G.dN a0 (i64.wrap (a1-1)) a1 (i64.wrap (a1+1)) a2 a3) λx0=>AI x0
def lK (G:af)(n:Nat)(a0:Sl)(a1 a2 a3:Int)(a4:θ)(a5:ξ):M Int:=sh (G.dO a0 a1 a2 a4 a5) λx0=>sh (G.dO a0 x0.2 a3 a4 a5) λx1=>sh (G.dO a0 x0.1 x1.1 a4 a5) λx2=>AI x2.2
def lL (G:af)(n:Nat)(a0:Sl)(a1 a2:Int)(a3:θ)(a4:ξ):M (Int×Int):=sh (ar a0 a2 1) λx0=>sh (ar a0 a1 1) λx1=>sh (aq li x0) λ(x2:Int)=>sh (aq li x1) λ(x3:Int)=>sh (om G n a4 x2 x3) λx4=>if decide (x4<0) then sh (nn a3) λx5=>sh (aq li x5) λ(x6:Int)=>sh (nn a3) λx7=>sh (bh x7 [vi (i64.wrap (x6+1))]) λx8=>AI (a2,a1) else AI (a1,a2)
def af.at:Nat->af|0=>⟨λ_ _=>AS,λ_ _ _ _ _ _=>AS,λ_ _=>AS,λ_ _ _ _ _ _ _=>AS,λ_ _ _ _ _=>AS,λ_ _ _ _=>AS,λ_ _ _ _ _=>AS,λ_ _ _ _ _ _=>AS,λ_ _ _ _ _=>AS,λ_ _ _ _=>AS,λ_ _ _ _ _ _=>AS,λ_ _ _ _ _=>AS,λ_ _ _ _=>AS,λ_ _ _ _=>AS,λ_ _ _ _ _ _ _=>AS,λ_ _ _ _ _ _ _=>AS,λ_ _ _ _ _ _=>AS,λ_ _ _ _ _ _=>AS,λ_ _ _ _=>AS,λ_ _ _ _ _=>AS,λ_ _ _ _ _=>AS,λ_ _ _ _ _=>AS,λ_ _ _ _ _=>AS,λ_ _ _ _ _=>AS,λ_ _ _ _ _=>AS,λ_ _ _ _ _=>AS,λ_ _ _ _ _=>AS,λ_ _ _ _ _=>AS,λ_ _ _ _ _=>AS,λ_ _ _ _ _ _ _ _ _=>AS,λ_ _ _ _ _=>AS,λ_ _ _ _ _=>AS,λ_ _ _ _ _=>AS,λ_ _ _ _=>AS,λ_ _ _ _ _ _=>AS,λ_ _ _ _ _=>AS⟩|n+1=>⟨lY (af.at n) n,nC (af.at n) n,pC (af.at n) n,eB (af.at n) n,fA (af.at n) n,oq (af.at n) n,o8 (af.at n) n,cB (af.at n) n,cC (af.at n) n,hS (af.at n) n,dS (af.at n) n,dT (af.at n) n,kr (af.at n) n,jb (af.at n) n,oE (af.at n) n,oF (af.at n) n,bE (af.at n) n,eJ (af.at n) n,fk (af.at n) n,cd (af.at n) n,cm (af.at n) n,cn (af.at n) n,gL (af.at n) n,dD (af.at n) n,dE (af.at n) n,dF (af.at n) n,dG (af.at n) n,dH (af.at n) n,jM (af.at n) n,np (af.at n) n,pO (af.at n) n,dU (af.at n) n,kA (af.at n) n,qU (af.at n) n,lK (af.at n) n,lL (af.at n) n⟩
def cp (n:Nat):=(af.at n).cp
def fS (n:Nat):=(af.at n).fS
def ea (n:Nat):=(af.at n).ea
def bH (n:Nat):=(af.at n).bH
def du (n:Nat):=(af.at n).du
def aP (n:Nat):=(af.at n).aP
def ij (n:Nat):=(af.at n).ij
def bT (n:Nat):=(af.at n).bT
def bU (n:Nat):=(af.at n).bU
def dV (n:Nat):=(af.at n).dV
def de (n:Nat):=(af.at n).de
def dh (n:Nat):=(af.at n).dh
def fK (n:Nat):=(af.at n).fK
def eL (n:Nat):=(af.at n).eL
def bI (n:Nat):=(af.at n).bI
def bJ (n:Nat):=(af.at n).bJ
def bt (n:Nat):=(af.at n).bt
def bu (n:Nat):=(af.at n).bu
def bZ (n:Nat):=(af.at n).bZ
def bK (n:Nat):=(af.at n).bK
def bL (n:Nat):=(af.at n).bL
def bM (n:Nat):=(af.at n).bM
def dI (n:Nat):=(af.at n).dI
def cM (n:Nat):=(af.at n).cM
def cN (n:Nat):=(af.at n).cN
def cO (n:Nat):=(af.at n).cO
def cP (n:Nat):=(af.at n).cP
def cQ (n:Nat):=(af.at n).cQ
def fB (n:Nat):=(af.at n).fB
def iZ (n:Nat):=(af.at n).iZ
def oW (n:Nat):=(af.at n).oW
def di (n:Nat):=(af.at n).di
def eC (n:Nat):=(af.at n).eC
def cq (n:Nat):=(af.at n).cq
def dN (n:Nat):=(af.at n).dN
def dO (n:Nat):=(af.at n).dO
def uz (n:Nat):=ax (af.at n) n
def qx (n:Nat):=j8 (af.at n) n
def oX (n:Nat):=gX (af.at n) n
def oY (n:Nat):=gY (af.at n) n
def oG (n:Nat):=gG (af.at n) n
def qi (n:Nat):=jK (af.at n) n
def qj (n:Nat):=jL (af.at n) n
def sU (n:Nat):=lT (af.at n) n
def sV (n:Nat):=lU (af.at n) n
def su (n:Nat):=lI (af.at n) n
def sv (n:Nat):=lJ (af.at n) n
def tM (n:Nat):=ni (af.at n) n
def tN (n:Nat):=nj (af.at n) n
def uL (n:Nat):=om (af.at n) n
def yo (n:Nat):=nD (af.at n) n
def sW (n:Nat):=dq (af.at n) n
def sX (n:Nat):=dn (af.at n) n
def sY (n:Nat):=bD (af.at n) n
def sZ (n:Nat):=dm (af.at n) n
def qc (n:Nat):=fF (af.at n) n
def sw (n:Nat):=bR (af.at n) n
def ot (n:Nat):=dL (af.at n) n
def BF (n:Nat):=fJ (af.at n) n
def sx (n:Nat):=bS (af.at n) n
abbrev Xi (n:Nat):dv:=⟨36,[cw,th],[],υ2 (cp n)⟩
abbrev Xj (n:Nat):dv:=⟨42,[BZ,aw],[cw],υ2 (ea n)⟩
abbrev Ki:L1:=⟨[0,1,0,1,1,1,1],[(1,aw),(2,aB),(5,aB),(6,cw),(37,aw),(38,aw)],[],[7]++List.range' 38 8,0,λn=>υ6 (fS n)⟩
abbrev Xk (n:Nat):dv:=⟨57,[cw,aw,aw,aw,th],[],υ5 (du n)⟩
abbrev Kj:Lr:=⟨[0,1,1],[(0,cw),(1,aw),(2,aw),(3,aw),(4,th),(10,lS),(11,lS)],[],[1,2,3]++List.range' 10 138,λn=>υ7 (bH n)⟩
abbrev Xl (n:Nat):dv:=⟨61,[aw,aw,aB,aB],[aw],υ4 (aP n)⟩
abbrev Xm (n:Nat):dv:=⟨62,[BZ,aw,BZ,aw,tyM],[aw],υ5 (ij n)⟩
abbrev Xn (n:Nat):dv:=⟨76,[cw,aw,aw,th],[],υ4 (dV n)⟩
abbrev Kl:L1:=⟨[0,1],[(0,cw),(1,aw),(2,aw),(3,th),(8,aw)],[],[8,9]++List.range' 12 41,0,λn=>υ5 (bU n)⟩
abbrev Kn:L1:=⟨[0,1,0,0,1,0,0,1],[(0,cw),(1,aw),(2,aw),(3,th),(8,aw),(9,aw)],[],[9]++List.range' 18 35,2,λn=>υ6 (bT n)⟩
abbrev Xo (n:Nat):dv:=⟨77,[cw,aw,aw,th],[],υ4 (fK n)⟩
abbrev Ko:L1:=⟨[0,1,0,1,1,1],[(0,cw),(3,th),(8,aw),(9,aw),(10,aw),(11,aw)],[],[11]++List.range' 20 10,0,λn=>υ6 (de n)⟩
abbrev Kp:L1:=⟨[0,1,1,1,1,1],[(0,cw),(3,th),(8,aw),(9,aw),(12,aw)],[],[12]++List.range' 32 28,2,λn=>υ5 (dh n)⟩
abbrev Xp (n:Nat):dv:=⟨79,[cw,aw,aw,th],[aw,aw],υ4 (eL n)⟩
abbrev Xq (n:Nat):dv:=⟨81,[cw,aw,aw,th],[lS],υ4 (bZ n)⟩
abbrev Kq:L2:=⟨[0,1,0,1,1],[(0,cw),(1,aw),(2,aw),(3,th),(9,aw),(10,aw)],[],[(8,lS)],List.range' 8 5++List.range' 15 126,0,.ret,λn=>υ6 (bu n)⟩
abbrev Kr:L1:=⟨[0,0,0,0,1,0,0,1,0,1,1],[(0,cw),(1,aw),(2,aw),(3,th),(9,aw),(10,aw)],[(9,aw)],[9]++List.range' 19 20,2,λn=>υ6 (bt n)⟩
abbrev Ks:L1:=⟨[0,1,0,1,0,1,1,1,1,0,0,1,0,0,1,0,1,1],[(0,cw),(1,aw),(2,aw),(3,th),(9,aw),(10,aw),(11,aw)],[],[11]++List.range' 68 33,4,λn=>υ7 (bI n)⟩
abbrev Kt:L1:=⟨[0,1,0,1,1,1,1,1,1,0,0,1,0,0,1,0,1,1],[(0,cw),(1,aw),(2,aw),(3,th),(9,aw),(10,aw),(12,aw)],[],[12]++List.range' 107 34,6,λn=>υ7 (bJ n)⟩
abbrev Xr (n:Nat):dv:=⟨82,[cw,aw,aw,aw,th],[aw],υ5 (dI n)⟩
abbrev Ku:L1:=⟨[0,0,1,1,1],[(0,cw),(1,aw),(4,th),(11,aw),(12,aw)],[(11,aw)],[11,12]++List.range' 31 58,0,λn=>υ5 (bM n)⟩
abbrev Kv:L1:=⟨[0,0,0,0,0,0,1,1,1],[(0,cw),(1,aw),(4,th),(11,aw),(12,aw)],[(11,aw)],[11]++List.range' 31 19,2,λn=>υ5 (bL n)⟩
abbrev Kw:L1:=⟨[0,0,1,0,0,0,0,1,1,1],[(0,cw),(1,aw),(4,th),(11,aw),(12,aw)],[(12,aw)],[12]++List.range' 50 18,4,λn=>υ5 (bK n)⟩
abbrev Xs (n:Nat):dv:=⟨83,[cw,aw,aw,aw,th],[aw,lS],υ5 (fB n)⟩
abbrev Kx:L1:=⟨[0,0,1,1,1],[(0,cw),(1,aw),(4,th),(12,aw),(13,aw)],[(12,aw)],[12]++List.range' 32 18,0,λn=>υ5 (cQ n)⟩
abbrev Ky:L1:=⟨[0,0,1,1,1,1],[(0,cw),(1,aw),(4,th),(12,aw),(13,aw)],[(13,aw)],[13]++List.range' 50 19,2,λn=>υ5 (cP n)⟩
abbrev Kz:L1:=⟨[0,0,1,1,1,1,1,1,1,1,1],[(0,cw),(1,aw),(4,th),(12,aw),(13,aw)],[(13,aw)],[12,13]++List.range' 105 58,4,λn=>υ5 (cO n)⟩
abbrev KA:L1:=⟨[0,0,0,0,0,0,1,1,1,1,1,1,1,1,1],[(0,cw),(1,aw),(4,th),(12,aw),(13,aw)],[(12,aw)],[12]++List.range' 105 18,6,λn=>υ5 (cN n)⟩
abbrev KB:L1:=⟨[0,0,1,0,0,0,0,1,1,1,1,1,1,1,1,1],[(0,cw),(1,aw),(4,th),(12,aw),(13,aw)],[(13,aw)],[13]++List.range' 123 19,8,λn=>υ5 (cM n)⟩
abbrev Xt (n:Nat):dv:=⟨88,[BZ,aw,BZ,aw,tyM],[aw],υ5 (oW n)⟩
abbrev KD:L2:=⟨[0,1,0,1,1,1,1,1],[(0,BZ),(2,BZ),(4,tyM),(11,BZ),(12,BZ),(14,cw),(15,cw),(93,aw),(94,aw)],[],[(10,aw)],[10,16,17,18]++List.range' 94 62,1,.ret,λn=>υ9 (iZ n)⟩
abbrev Xu (n:Nat):dv:=⟨99,[cw,aw,aw,aw,th],[],υ5 (eC n)⟩
abbrev KE:L2:=⟨[0,1],[(0,cw),(2,aw),(3,aw),(4,th),(10,aw)],[],[],[10,11]++List.range' 13 69,0,.ret,λn=>υ5 (di n)⟩
abbrev Py (n:Nat):dv:=⟨102,[cw,aw,BZ,th],[aw],υ4 (cq n)⟩
abbrev Pz (n:Nat):dv:=⟨103,[cw,aw,aw,aw,BZ,th],[aw],υ6 (dN n)⟩
abbrev PA (n:Nat):dv:=⟨129,[cw,aw,aw,BZ,th],[aw,aw],υ5 (dO n)⟩
abbrev xF (n:Nat):List dv:=Xi n::Xj n::Xk n::Xl n::Xm n::Xn n::Xo n::Xp n::Xq n::Xr n::Xs n::Xt n::Xu n::Py n::Pz n::PA n::C12 n
abbrev aeR (n:Nat):List (jm Sl):=[⟨[0,1,0,1,1,1,1,1],[.code [1,1,1,1,1,1]],[(1,aw),(2,aB),(5,aB),(6,cw)],υ4 (yo n)⟩]
abbrev PC (n:Nat):List oZ:=[⟨84,[aw,aw],[aw],λx a=>uz n x a.1 a.2⟩]
def Xv (i:Nat):Option (List (Nat×η)):=Κ i 17 (Ω [0,1,2,3,4,5,6,7,9,10,11,8,12,13,14,15,16]) none
abbrev Tq (n:Nat):List (jm Unit):=[⟨[0,1,1,1,1,0,0,0,1,1],[.code [1,1,1,1,1,0,0,0,1,1],.au 1],[(0,cw),(1,aw),(2,aw),(3,aw),(4,th),(10,lS),(11,lS),(12,aw)],υ8 (sW n)⟩, ⟨[0,0,1,1,1,1,1,1,0,0,0,1,1],[.code [1,0,1,1,1,1,1,1,0,0,0,1,1],.code [1,1,1,1,1,1,1,0,0,0,1,1],.au 1],[(0,cw),(1,aw),(2,aw),(3,aw),(4,th),(10,lS),(11,lS),(12,aw),(13,aw),(14,aw)],υ10 (sX n)⟩, ⟨[0,0,1,1,1,1,1,1,1,0,0,0,1,1],[.code [1,0,1,1,1,1,1,1,1,0,0,0,1,1],.code [1,1,1,1,1,1,1,1,0,0,0,1,1],.au 1],[(0,cw),(1,aw),(2,aw),(3,aw),(4,th),(10,lS),(11,lS),(12,aw),(13,aw)],υ9 (sY n)⟩, ⟨[0,1,1,1,1,1,1,1,1,0,0,0,1,1],[.code [1,1,1,1,1,1,1,1,1,0,0,0,1,1],.au 1],[(0,cw),(1,aw),(2,aw),(3,aw),(4,th),(10,lS),(11,lS),(12,aw),(13,aw)],υ9 (sZ n)⟩]
def aeS (i:Nat):Option (List (Nat×η)):=Κ i 1 (Ω [5,13,0,1,2,3,4,6,7,8,9,10,11,12,14,15,16,17]) none
abbrev KG (n:Nat):List oZ:=[⟨22,[aw,aw],[aw],λx a=>qx n x a.1 a.2⟩]
def PD (i:Nat):Option (List (Nat×η)):=Κ i 4 (Ω [0,1,2,3,4,5,6,7,9,10,11,12,8,13,14,15,16]) (Κ i 6 (Ω [0,1,2,3,4,5,6,7,8,10,11,12,9,13,14,15,16,17]) none)
abbrev Tr (n:Nat):List (jm Unit):=[⟨[0,0,1,0,0,1,0,0,1,0,0,1],[.au 3,.code [1,1,0,0,1,0,0,1,0,0,1]],[(0,cw),(1,aw),(2,aw),(3,th),(8,aw),(9,aw)],υ6 (qc n)⟩]
def PE (i:Nat):Option (List (Nat×η)):=Κ i 10 (Ω [0,1,2,3,4,5,6,7,8,9,10,12,13,14,11,15,16,17,18,19]) none
abbrev aeT (n:Nat):List (jm (Int×Int)):=[⟨[0,1,1,1,1,1,1,1],[.code [1,1,1,1,1,1,1,1]],[(11,aB),(13,aw)],υ2 (sw n)⟩]
abbrev DE (n:Nat):List oZ:=[⟨23,[aw,aw],[aw],λx a=>oX n x a.1 a.2⟩, ⟨72,[aw,aw],[aw],λx a=>oY n x a.1 a.2⟩, ⟨112,[aw,aw],[aw],λx a=>oG n x a.1 a.2⟩]
def GP (i:Nat):Option (List (Nat×η)):=Κ i 5 (Ω [0,1,2,3,4,5,6,7,9,10,11,12,8,13,14,15,16,17]) (Κ i 11 (Ω [0,1,2,3,4,5,6,7,8,10,11,12,9,13,14,15,16,17]) (Κ i 16 (Ω [0,1,2,3,5,6,7,8,4,9,10,11,12]) (Κ i 17 (Ω [0,1,2,3,4,5,6,7,8,10,11,12,9,13,14,15,16,17]) (Κ i 22 (Ω [0,1,2,3,5,6,7,8,4,9,10,11,12]) (Κ i 23 (Ω [0,1,2,3,4,5,6,7,8,10,11,12,9,13,14,15,16,17]) none)))))
abbrev Ts (n:Nat):List (jm (Unit⊕Bool)):=[⟨[0,1,1,1,1,1,0,0,1,0,0,1,0,1,1],[.code [1,1,1,1,1,1,0,0,1,0,0,1,0,1,1],.au 1,.code [1,1,0,0,1,0,1,1]],[(0,cw),(1,aw),(2,aw),(3,th),(9,aw),(10,aw)],υ6 (ot n)⟩]
abbrev GQ (n:Nat):List oZ:=[⟨35,[aw,aw],[aw],λx a=>qi n x a.1 a.2⟩, ⟨54,[aw,aw],[aw],λx a=>qj n x a.1 a.2⟩]
def KH (i:Nat):Option (List (Nat×η)):=Κ i 1 (Ω [0,1,2,3,4,5,6,8,9,10,7,11,12,13,14,15]) (Κ i 3 (Ω [0,1,2,3,4,5,6,7,9,10,11,8,12,13,14,15,16]) (Κ i 5 (Ω [0,1,2,3,4,5,6,7,9,10,11,8,12,13,14,15]) (Κ i 8 (Ω [0,1,2,3,4,5,6,8,9,10,7,11,12,13,14,15]) none)))
abbrev BG (n:Nat):List oZ:=[⟨36,[aw,aw],[aw],λx a=>sU n x a.1 a.2⟩, ⟨54,[aw,aw],[aw],λx a=>sV n x a.1 a.2⟩, ⟨109,[aw,aw],[aw],λx a=>su n x a.1 a.2⟩, ⟨127,[aw,aw],[aw],λx a=>sv n x a.1 a.2⟩]
def DG (i:Nat):Option (List (Nat×η)):=Κ i 1 (Ω [0,1,2,3,4,5,6,8,9,10,7,11,12,13,14,15]) (Κ i 3 (Ω [0,1,2,3,4,5,6,7,9,10,11,8,12,13,14,15]) (Κ i 5 (Ω [0,1,2,3,4,5,6,7,9,10,11,8,12,13,14,15,16]) (Κ i 8 (Ω [0,1,2,3,4,5,6,8,9,10,7,11,12,13,14,15]) (Κ i 10 (Ω [0,1,2,3,4,5,6,8,9,10,7,11,12,13,14,15]) (Κ i 13 (Ω [0,1,2,3,4,5,6,7,9,10,11,8,12,13,14,15]) (Κ i 15 (Ω [0,1,2,3,4,5,6,7,9,10,11,8,12,13,14,15,16]) (Κ i 18 (Ω [0,1,2,3,4,5,6,8,9,10,7,11,12,13,14,15]) (Κ i 21 (Ω [0,1,2,3,4,5,6,8,9,10,7,11,12,13,14,15]) none))))))))
def Xw (i:Nat):Option (List (Nat×η)):=Κ i 1 (Ω [0,1,2,3,5,7,8,9,10,12,4,6,14,11,13,15]) (Κ i 2 (Ω [0,1,2,4,5,6,3,7,8,9]) (Κ i 4 (Ω [0,1,2,4,5,6,3,7,8,9]) (Κ i 6 (Ω [0,1,2,4,5,6,3,7,8,9]) (Κ i 10 (Ω [0,1,2,4,5,6,8,9,10,3,7,11,12,13]) (Κ i 18 (Ω [0,1,2,3,5,6,7,11,12,13,14,16,17,18,4,8,9,10,15,19,20,21,22,23]) (Κ i 21 (Ω [0,1,2,3,5,6,7,11,12,13,14,16,17,18,22,4,8,9,10,15,19,20,21,23,24]) none))))))
abbrev Tt (n:Nat):List (jm (Unit⊕Int)):=[⟨[0,1,1,0,0,1,1,0,0,1,0,1,1,1,1,1],[.code [1,1,1,0,0,1,1,0,0,1,0,1,1,1,1,1],.au 2,.code [1,1,1,0,0,1,0,1,1,1,1,1]],[(0,BZ),(2,BZ),(4,tyM),(11,BZ),(12,BZ),(14,cw),(15,cw),(16,aw),(93,aw),(94,aw)],υ10 (BF n)⟩]
abbrev PF (n:Nat):List oZ:=[⟨24,[aw,aw],[aw],λx a=>tM n x a.1 a.2⟩, ⟨43,[aw,aw],[aw],λx a=>tN n x a.1 a.2⟩]
def Xx (i:Nat):Option (List (Nat×η)):=Κ i 3 (Ω [0,1,2,3,4,5,6,7,8,9,10,12,13,14,15,16,17,11,18,19,20,21]) (Κ i 5 (Ω [0,1,2,3,4,5,7,8,9,10,11,6,12,13,14,15]) (Κ i 6 (Ω [0,1,2,3,4,5,6,7,8,9,10,11,12,14,15,16,17,18,13,19,20,21,22,23]) none))
abbrev Tu (n:Nat):List (jm (Unit⊕Unit)):=[⟨[0,0,1,1,1,0,0,0,1],[.code [1,0,1,1,1,0,0,0,1],.code [1,1,1,1,0,0,0,1],.au 1],[(0,cw),(2,aw),(3,aw),(4,th),(10,aw),(11,aw)],υ6 (sx n)⟩]
abbrev Q3 (n:Nat):List oZ:=[⟨12,[aw,aw],[aw],λx a=>uL n x a.1 a.2⟩]
def aaZ (i:Nat):Option (List (Nat×η)):=Κ i 1 (Ω [0,1,2,3,5,6,7,4,8,9,10]) none
def ak (n:Nat):Prop:=aK TZp (Xi n)/\aK TZp (Xj n)/\aK TZp (Xk n)/\aK TZp (Xl n)/\aK TZp (Xm n)/\aK TZp (Xn n)/\aK TZp (Xo n)/\aK TZp (Xp n)/\aK TZp (Xq n)/\aK TZp (Xr n)/\aK TZp (Xs n)/\aK TZp (Xt n)/\aK TZp (Xu n)/\aK TZp (Py n)/\aK TZp (Pz n)/\aK TZp (PA n)
theorem je (n:Nat)(H:ak n):eE TZp (xF n):=.cons H.1 (.cons H.2.1 (.cons H.2.2.1 (.cons H.2.2.2.1 (.cons H.2.2.2.2.1 (.cons H.2.2.2.2.2.1 (.cons H.2.2.2.2.2.2.1 (.cons H.2.2.2.2.2.2.2.1 (.cons H.2.2.2.2.2.2.2.2.1 (.cons H.2.2.2.2.2.2.2.2.2.1 (.cons H.2.2.2.2.2.2.2.2.2.2.1 (.cons H.2.2.2.2.2.2.2.2.2.2.2.1 (.cons H.2.2.2.2.2.2.2.2.2.2.2.2.1 (.cons H.2.2.2.2.2.2.2.2.2.2.2.2.2.1 (.cons H.2.2.2.2.2.2.2.2.2.2.2.2.2.2.1 (.cons H.2.2.2.2.2.2.2.2.2.2.2.2.2.2.2 (K12 n))))))))))))))))
theorem s6 (n:Nat)(H:∀m,m<n+1->ak m):aK TZp (Xi (n+1)):=bw Tryz.f36 (xF n) (hT:=.m1 (je n (H n (IT n))))
theorem Tv (n:Nat)(H:∀m,m<n->ak m):lA TZp Tryz.f42 (Ki.e n) Ki.ws:=L1.ok Tryz.f42 Ki n xF (hT:=λm hm=>.m1 (je m (H m hm)))
theorem ve (n:Nat)(H:∀m,m<n+1->ak m):aK TZp (Xj (n+1)):=bw Tryz.f42 (xF n) (ll:=[Ki.e n]) (js:=aeR n) (hT:=⟨.nil,je n (H n (IT n)),.nil,(.cc (Tv n (λk hk=>H k (adf hk))) .nil),(.cc .nil)⟩)
theorem Xy (n:Nat)(H:ak n):pK TZp (PC n):=.cons (cS (l:=[⟨37,[aB,aB],λa c=>aH n a.1 a.2 c.1 c.2⟩,⟨61,[aB,aB],λa c=>aP n a.1 a.2 c.1 c.2⟩]) (.cons (λa c=>aD (by kernel_rfl) ((aG n) (a.1,a.2,c.1,c.2))) (.cons (λa c=>aD (by kernel_rfl) ((H).2.2.2.1 (a.1,a.2,c.1,c.2))) .nil)) (λx a=>by kernel_rfl)) .nil
theorem Tw (n:Nat)(H:∀m,m<n->ak m):lA TZp Tryz.f57 (Kj.e n) Kj.ws:=Lr.ok Tryz.f57 Kj n xF (dt:=PC) (dr:=Xv) (jt:=Tq) (hT:=λm hm=>⟨.nil,je m (H m hm),(Xy m (H m hm)),.nil,(.cc (.cc (.cc (.cc .nil))))⟩)
theorem rF (n:Nat)(H:∀m,m<n+1->ak m):aK TZp (Xk (n+1)):=bw Tryz.f57 (xF n) (dl:=PC n) (ll:=[Kj.e n]) (dr:=Xv) (hT:=⟨.nil,je n (H n (IT n)),(Xy n (H n (IT n))),(.cc (Tw n (λk hk=>H k (adf hk))) .nil),.nil⟩)
theorem uA (n:Nat)(H:∀m,m<n+1->ak m):aK TZp (Xl (n+1)):=bw Tryz.f61 (xF n) (dr:=aeS) (hT:=.m1 (je n (H n (IT n))))
theorem yX (n:Nat)(H:∀m,m<n+1->ak m):aK TZp (Xm (n+1)):=bw Tryz.f62 (xF n) (hT:=.m1 (je n (H n (IT n))))
theorem PG (n:Nat)(H:ak n):pK TZp (KG n):=.cons (cS (l:=[⟨37,[aB,aB],λa c=>aH n a.1 a.2 c.1 c.2⟩,⟨61,[aB,aB],λa c=>aP n a.1 a.2 c.1 c.2⟩]) (.cons (λa c=>aD (by kernel_rfl) ((aG n) (a.1,a.2,c.1,c.2))) (.cons (λa c=>aD (by kernel_rfl) ((H).2.2.2.1 (a.1,a.2,c.1,c.2))) .nil)) (λx a=>by kernel_rfl)) .nil
theorem Tx (n:Nat)(H:∀m,m<n->ak m):lA TZp Tryz.f76 (Kn.e n) Kn.ws:=L1.ok Tryz.f76 Kn n xF (dt:=KG) (dr:=PD) (jt:=Tr) (hT:=λm hm=>⟨.nil,je m (H m hm),(PG m (H m hm)),.nil,(.cc .nil)⟩)
theorem Tz (n:Nat)(H:∀m,m<n->ak m):lA TZp Tryz.f76 (Kl.e n) Kl.ws:=L1.ok Tryz.f76 Kl n xF (dt:=KG) (lt:=λn=>[Kn.e n]) (dr:=PD) (hT:=λm hm=>⟨.nil,je m (H m hm),(PG m (H m hm)),(.cc (Tx m (λk hk=>H k (ah4 hk hm))) .nil),.nil⟩)
theorem pJ (n:Nat)(H:∀m,m<n+1->ak m):aK TZp (Xn (n+1)):=bw Tryz.f76 (xF n) (dl:=KG n) (ll:=[Kl.e n]) (dr:=PD) (hT:=⟨.nil,je n (H n (IT n)),(PG n (H n (IT n))),(.cc (Tz n (λk hk=>H k (adf hk))) .nil),.nil⟩)
theorem TA (n:Nat)(H:∀m,m<n->ak m):lA TZp Tryz.f77 (Ko.e n) Ko.ws:=L1.ok Tryz.f77 Ko n xF (dr:=PE) (hT:=λm hm=>.m1 (je m (H m hm)))
theorem TB (n:Nat)(H:∀m,m<n->ak m):lA TZp Tryz.f77 (Kp.e n) Kp.ws:=L1.ok Tryz.f77 Kp n xF (dr:=PE) (hT:=λm hm=>.m1 (je m (H m hm)))
theorem qV (n:Nat)(H:∀m,m<n+1->ak m):aK TZp (Xo (n+1)):=bw Tryz.f77 (xF n) (ll:=[Ko.e n,Kp.e n]) (dr:=PE) (hT:=⟨.nil,je n (H n (IT n)),.nil,(.cc (TA n (λk hk=>H k (adf hk))) (.cc (TB n (λk hk=>H k (adf hk))) .nil)),.nil⟩)
theorem qd (n:Nat)(H:∀m,m<n+1->ak m):aK TZp (Xp (n+1)):=bw Tryz.f79 (xF n) (js:=aeT n) (hT:=⟨.nil,je n (H n (IT n)),.nil,.nil,(.cc .nil)⟩)
theorem GR (n:Nat)(H:ak n):pK TZp (DE n):=.cons (cS (l:=[⟨37,[aB,aB],λa c=>aH n a.1 a.2 c.1 c.2⟩,⟨61,[aB,aB],λa c=>aP n a.1 a.2 c.1 c.2⟩]) (.cons (λa c=>aD (by kernel_rfl) ((aG n) (a.1,a.2,c.1,c.2))) (.cons (λa c=>aD (by kernel_rfl) ((H).2.2.2.1 (a.1,a.2,c.1,c.2))) .nil)) (λx a=>by kernel_rfl)) (.cons (cS (l:=[⟨37,[aB,aB],λa c=>aH n a.1 a.2 c.1 c.2⟩,⟨61,[aB,aB],λa c=>aP n a.1 a.2 c.1 c.2⟩]) (.cons (λa c=>aD (by kernel_rfl) ((aG n) (a.1,a.2,c.1,c.2))) (.cons (λa c=>aD (by kernel_rfl) ((H).2.2.2.1 (a.1,a.2,c.1,c.2))) .nil)) (λx a=>by kernel_rfl)) (.cons (cS (l:=[⟨37,[aB,aB],λa c=>aH n a.1 a.2 c.1 c.2⟩,⟨61,[aB,aB],λa c=>aP n a.1 a.2 c.1 c.2⟩]) (.cons (λa c=>aD (by kernel_rfl) ((aG n) (a.1,a.2,c.1,c.2))) (.cons (λa c=>aD (by kernel_rfl) ((H).2.2.2.1 (a.1,a.2,c.1,c.2))) .nil)) (λx a=>by kernel_rfl)) .nil))
theorem TD (n:Nat)(H:∀m,m<n->ak m):lA TZp Tryz.f81 (Ks.e n) Ks.ws:=L1.ok Tryz.f81 Ks n xF (dt:=DE) (dr:=GP) (hT:=λm hm=>⟨.nil,je m (H m hm),(GR m (H m hm)),.nil,.nil⟩)
theorem TE (n:Nat)(H:∀m,m<n->ak m):lA TZp Tryz.f81 (Kt.e n) Kt.ws:=L1.ok Tryz.f81 Kt n xF (dt:=DE) (dr:=GP) (hT:=λm hm=>⟨.nil,je m (H m hm),(GR m (H m hm)),.nil,.nil⟩)
theorem TF (n:Nat)(H:∀m,m<n->ak m):lA TZp Tryz.f81 (Kr.e n) Kr.ws:=L1.ok Tryz.f81 Kr n xF (dt:=DE) (dr:=GP) (hT:=λm hm=>⟨.nil,je m (H m hm),(GR m (H m hm)),.nil,.nil⟩)
theorem TG (n:Nat)(H:∀m,m<n->ak m):lA TZp Tryz.f81 (Kq.e n) Kq.ws:=L2.ok Tryz.f81 Kq n xF (dt:=DE) (lt:=λn=>[Kr.e n,Ks.e n,Kt.e n]) (dr:=GP) (jt:=Ts) (hT:=λm hm=>⟨.nil,je m (H m hm),(GR m (H m hm)),(.cc (TF m (λk hk=>H k (ah4 hk hm))) (.cc (TD m (λk hk=>H k (ah4 hk hm))) (.cc (TE m (λk hk=>H k (ah4 hk hm))) .nil))),(.cc .nil)⟩)
theorem nE (n:Nat)(H:∀m,m<n+1->ak m):aK TZp (Xq (n+1)):=bw Tryz.f81 (xF n) (dl:=DE n) (ll:=[Kq.e n]) (dr:=GP) (hT:=⟨.nil,je n (H n (IT n)),(GR n (H n (IT n))),(.cc (TG n (λk hk=>H k (adf hk))) .nil),.nil⟩)
theorem KI (n:Nat)(H:ak n):pK TZp (GQ n):=.cons (cS (l:=[⟨37,[aB,aB],λa c=>aH n a.1 a.2 c.1 c.2⟩,⟨61,[aB,aB],λa c=>aP n a.1 a.2 c.1 c.2⟩]) (.cons (λa c=>aD (by kernel_rfl) ((aG n) (a.1,a.2,c.1,c.2))) (.cons (λa c=>aD (by kernel_rfl) ((H).2.2.2.1 (a.1,a.2,c.1,c.2))) .nil)) (λx a=>by kernel_rfl)) (.cons (cS (l:=[⟨37,[aB,aB],λa c=>aH n a.1 a.2 c.1 c.2⟩,⟨61,[aB,aB],λa c=>aP n a.1 a.2 c.1 c.2⟩]) (.cons (λa c=>aD (by kernel_rfl) ((aG n) (a.1,a.2,c.1,c.2))) (.cons (λa c=>aD (by kernel_rfl) ((H).2.2.2.1 (a.1,a.2,c.1,c.2))) .nil)) (λx a=>by kernel_rfl)) .nil)
theorem TH (n:Nat)(H:∀m,m<n->ak m):lA TZp Tryz.f82 (Kw.e n) Kw.ws:=L1.ok Tryz.f82 Kw n xF (dt:=GQ) (dr:=KH) (hT:=λm hm=>⟨.nil,je m (H m hm),(KI m (H m hm)),.nil,.nil⟩)
theorem TK (n:Nat)(H:∀m,m<n->ak m):lA TZp Tryz.f82 (Kv.e n) Kv.ws:=L1.ok Tryz.f82 Kv n xF (dt:=GQ) (dr:=KH) (hT:=λm hm=>⟨.nil,je m (H m hm),(KI m (H m hm)),.nil,.nil⟩)
theorem TM (n:Nat)(H:∀m,m<n->ak m):lA TZp Tryz.f82 (Ku.e n) Ku.ws:=L1.ok Tryz.f82 Ku n xF (dt:=GQ) (lt:=λn=>[Kv.e n,Kw.e n]) (dr:=KH) (hT:=λm hm=>⟨.nil,je m (H m hm),(KI m (H m hm)),(.cc (TK m (λk hk=>H k (ah4 hk hm))) (.cc (TH m (λk hk=>H k (ah4 hk hm))) .nil)),.nil⟩)
theorem pD (n:Nat)(H:∀m,m<n+1->ak m):aK TZp (Xr (n+1)):=bw Tryz.f82 (xF n) (dl:=GQ n) (ll:=[Ku.e n]) (dr:=KH) (hT:=⟨.nil,je n (H n (IT n)),(KI n (H n (IT n))),(.cc (TM n (λk hk=>H k (adf hk))) .nil),.nil⟩)
theorem DH (n:Nat)(H:ak n):pK TZp (BG n):=.cons (cS (l:=[⟨37,[aB,aB],λa c=>aH n a.1 a.2 c.1 c.2⟩,⟨61,[aB,aB],λa c=>aP n a.1 a.2 c.1 c.2⟩]) (.cons (λa c=>aD (by kernel_rfl) ((aG n) (a.1,a.2,c.1,c.2))) (.cons (λa c=>aD (by kernel_rfl) ((H).2.2.2.1 (a.1,a.2,c.1,c.2))) .nil)) (λx a=>by kernel_rfl)) (.cons (cS (l:=[⟨37,[aB,aB],λa c=>aH n a.1 a.2 c.1 c.2⟩,⟨61,[aB,aB],λa c=>aP n a.1 a.2 c.1 c.2⟩]) (.cons (λa c=>aD (by kernel_rfl) ((aG n) (a.1,a.2,c.1,c.2))) (.cons (λa c=>aD (by kernel_rfl) ((H).2.2.2.1 (a.1,a.2,c.1,c.2))) .nil)) (λx a=>by kernel_rfl)) (.cons (cS (l:=[⟨37,[aB,aB],λa c=>aH n a.1 a.2 c.1 c.2⟩,⟨61,[aB,aB],λa c=>aP n a.1 a.2 c.1 c.2⟩]) (.cons (λa c=>aD (by kernel_rfl) ((aG n) (a.1,a.2,c.1,c.2))) (.cons (λa c=>aD (by kernel_rfl) ((H).2.2.2.1 (a.1,a.2,c.1,c.2))) .nil)) (λx a=>by kernel_rfl)) (.cons (cS (l:=[⟨37,[aB,aB],λa c=>aH n a.1 a.2 c.1 c.2⟩,⟨61,[aB,aB],λa c=>aP n a.1 a.2 c.1 c.2⟩]) (.cons (λa c=>aD (by kernel_rfl) ((aG n) (a.1,a.2,c.1,c.2))) (.cons (λa c=>aD (by kernel_rfl) ((H).2.2.2.1 (a.1,a.2,c.1,c.2))) .nil)) (λx a=>by kernel_rfl)) .nil)))
theorem TN (n:Nat)(H:∀m,m<n->ak m):lA TZp Tryz.f83 (KB.e n) KB.ws:=L1.ok Tryz.f83 KB n xF (dt:=BG) (dr:=DG) (hT:=λm hm=>⟨.nil,je m (H m hm),(DH m (H m hm)),.nil,.nil⟩)
theorem TO (n:Nat)(H:∀m,m<n->ak m):lA TZp Tryz.f83 (KA.e n) KA.ws:=L1.ok Tryz.f83 KA n xF (dt:=BG) (dr:=DG) (hT:=λm hm=>⟨.nil,je m (H m hm),(DH m (H m hm)),.nil,.nil⟩)
theorem TQ (n:Nat)(H:∀m,m<n->ak m):lA TZp Tryz.f83 (Kz.e n) Kz.ws:=L1.ok Tryz.f83 Kz n xF (dt:=BG) (lt:=λn=>[KA.e n,KB.e n]) (dr:=DG) (hT:=λm hm=>⟨.nil,je m (H m hm),(DH m (H m hm)),(.cc (TO m (λk hk=>H k (ah4 hk hm))) (.cc (TN m (λk hk=>H k (ah4 hk hm))) .nil)),.nil⟩)
theorem TT (n:Nat)(H:∀m,m<n->ak m):lA TZp Tryz.f83 (Ky.e n) Ky.ws:=L1.ok Tryz.f83 Ky n xF (dt:=BG) (dr:=DG) (hT:=λm hm=>⟨.nil,je m (H m hm),(DH m (H m hm)),.nil,.nil⟩)
theorem TU (n:Nat)(H:∀m,m<n->ak m):lA TZp Tryz.f83 (Kx.e n) Kx.ws:=L1.ok Tryz.f83 Kx n xF (dt:=BG) (dr:=DG) (hT:=λm hm=>⟨.nil,je m (H m hm),(DH m (H m hm)),.nil,.nil⟩)
theorem qy (n:Nat)(H:∀m,m<n+1->ak m):aK TZp (Xs (n+1)):=bw Tryz.f83 (xF n) (dl:=BG n) (ll:=[Kx.e n,Ky.e n,Kz.e n]) (dr:=DG) (hT:=⟨.nil,je n (H n (IT n)),(DH n (H n (IT n))),(.cc (TU n (λk hk=>H k (adf hk))) (.cc (TT n (λk hk=>H k (adf hk))) (.cc (TQ n (λk hk=>H k (adf hk))) .nil))),.nil⟩)
theorem TV (n:Nat)(H:∀m,m<n->ak m):lA TZp Tryz.f88 (KD.e n) KD.ws:=L2.ok Tryz.f88 KD n xF (dr:=Xw) (jt:=Tt) (hT:=λm hm=>⟨.nil,je m (H m hm),.nil,.nil,(.cc .nil)⟩)
theorem zO (n:Nat)(H:∀m,m<n+1->ak m):aK TZp (Xt (n+1)):=bw Tryz.f88 (xF n) (ll:=[KD.e n]) (dr:=Xw) (hT:=⟨.nil,je n (H n (IT n)),.nil,(.cc (TV n (λk hk=>H k (adf hk))) .nil),.nil⟩)
theorem Xz (n:Nat)(H:ak n):pK TZp (PF n):=.cons (cS (l:=[⟨37,[aB,aB],λa c=>aH n a.1 a.2 c.1 c.2⟩,⟨61,[aB,aB],λa c=>aP n a.1 a.2 c.1 c.2⟩]) (.cons (λa c=>aD (by kernel_rfl) ((aG n) (a.1,a.2,c.1,c.2))) (.cons (λa c=>aD (by kernel_rfl) ((H).2.2.2.1 (a.1,a.2,c.1,c.2))) .nil)) (λx a=>by kernel_rfl)) (.cons (cS (l:=[⟨37,[aB,aB],λa c=>aH n a.1 a.2 c.1 c.2⟩,⟨61,[aB,aB],λa c=>aP n a.1 a.2 c.1 c.2⟩]) (.cons (λa c=>aD (by kernel_rfl) ((aG n) (a.1,a.2,c.1,c.2))) (.cons (λa c=>aD (by kernel_rfl) ((H).2.2.2.1 (a.1,a.2,c.1,c.2))) .nil)) (λx a=>by kernel_rfl)) .nil)
theorem TW (n:Nat)(H:∀m,m<n->ak m):lA TZp Tryz.f99 (KE.e n) KE.ws:=L2.ok Tryz.f99 KE n xF (dt:=PF) (dr:=Xx) (jt:=Tu) (hT:=λm hm=>⟨.nil,je m (H m hm),(Xz m (H m hm)),.nil,(.cc .nil)⟩)
theorem qW (n:Nat)(H:∀m,m<n+1->ak m):aK TZp (Xu (n+1)):=bw Tryz.f99 (xF n) (dl:=PF n) (ll:=[KE.e n]) (dr:=Xx) (hT:=⟨.nil,je n (H n (IT n)),(Xz n (H n (IT n))),(.cc (TW n (λk hk=>H k (adf hk))) .nil),.nil⟩)
theorem pE (n:Nat)(H:∀m,m<n+1->ak m):aK TZp (Py (n+1)):=bw Tryz.f102 (xF n) (hT:=.m1 (je n (H n (IT n))))
theorem sy (n:Nat)(H:∀m,m<n+1->ak m):aK TZp (Pz (n+1)):=bw Tryz.f103 (xF n) (hT:=.m1 (je n (H n (IT n))))
theorem aa0 (n:Nat)(H:ak n):pK TZp (Q3 n):=.cons (cS (l:=[⟨37,[aB,aB],λa c=>aH n a.1 a.2 c.1 c.2⟩,⟨61,[aB,aB],λa c=>aP n a.1 a.2 c.1 c.2⟩]) (.cons (λa c=>aD (by kernel_rfl) ((aG n) (a.1,a.2,c.1,c.2))) (.cons (λa c=>aD (by kernel_rfl) ((H).2.2.2.1 (a.1,a.2,c.1,c.2))) .nil)) (λx a=>by kernel_rfl)) .nil
theorem sA (n:Nat)(H:∀m,m<n+1->ak m):aK TZp (PA (n+1)):=bw Tryz.f129 (xF n) (dl:=Q3 n) (dr:=aaZ) (hT:=⟨.nil,je n (H n (IT n)),(aa0 n (H n (IT n))),.nil,.nil⟩)
theorem uB:∀n m,m<n->ak m:=by
 intro n
 induction n with
 |zero=>intro m hm;exact absurd hm (ahR m)
 |succ n ih=>
  intro m hm;cases m with
  |zero=>exact⟨gf (fn:=Tryz.f36) (by kernel_rfl) (by kernel_rfl) (by kernel_rfl) (λ_=>rfl),gf (fn:=Tryz.f42) (by kernel_rfl) (by kernel_rfl) (by kernel_rfl) (λ_=>rfl),gf (fn:=Tryz.f57) (by kernel_rfl) (by kernel_rfl) (by kernel_rfl) (λ_=>rfl),gf (fn:=Tryz.f61) (by kernel_rfl) (by kernel_rfl) (by kernel_rfl) (λ_=>rfl),gf (fn:=Tryz.f62) (by kernel_rfl) (by kernel_rfl) (by kernel_rfl) (λ_=>rfl),gf (fn:=Tryz.f76) (by kernel_rfl) (by kernel_rfl) (by kernel_rfl) (λ_=>rfl),gf (fn:=Tryz.f77) (by kernel_rfl) (by kernel_rfl) (by kernel_rfl) (λ_=>rfl),gf (fn:=Tryz.f79) (by kernel_rfl) (by kernel_rfl) (by kernel_rfl) (λ_=>rfl),gf (fn:=Tryz.f81) (by kernel_rfl) (by kernel_rfl) (by kernel_rfl) (λ_=>rfl),gf (fn:=Tryz.f82) (by kernel_rfl) (by kernel_rfl) (by kernel_rfl) (λ_=>rfl),gf (fn:=Tryz.f83) (by kernel_rfl) (by kernel_rfl) (by kernel_rfl) (λ_=>rfl),gf (fn:=Tryz.f88) (by kernel_rfl) (by kernel_rfl) (by kernel_rfl) (λ_=>rfl),gf (fn:=Tryz.f99) (by kernel_rfl) (by kernel_rfl) (by kernel_rfl) (λ_=>rfl),gf (fn:=Tryz.f102) (by kernel_rfl) (by kernel_rfl) (by kernel_rfl) (λ_=>rfl),gf (fn:=Tryz.f103) (by kernel_rfl) (by kernel_rfl) (by kernel_rfl) (λ_=>rfl),gf (fn:=Tryz.f129) (by kernel_rfl) (by kernel_rfl) (by kernel_rfl) (λ_=>rfl)⟩
  |succ k=>exact⟨s6 k λm hm=>ih m (by omega),ve k λm hm=>ih m (by omega),rF k λm hm=>ih m (by omega),uA k λm hm=>ih m (by omega),yX k λm hm=>ih m (by omega),pJ k λm hm=>ih m (by omega),qV k λm hm=>ih m (by omega),qd k λm hm=>ih m (by omega),nE k λm hm=>ih m (by omega),pD k λm hm=>ih m (by omega),qy k λm hm=>ih m (by omega),zO k λm hm=>ih m (by omega),qW k λm hm=>ih m (by omega),pE k λm hm=>ih m (by omega),sy k λm hm=>ih m (by omega),sA k λm hm=>ih m (by omega)⟩
theorem K13 (n:Nat):eE TZp (xF n):=je n (uB (n+1) n (IT n))
def qK (n:Nat)(a0:Int)(a1:ζ)(a2:Addr):M ((Sl×Int)×Int):=sh (oV n a0 a1) λx0=>if !x0 then sh (bh a2 [aO,vi 0]) λx1=>sh (aE [.sl,li] a2) λ(x2:Sl×Int)=>AI ((x2.1,x2.2),3) else sh (aF none aA [vi a0,.string a1,.bool false,aO,aO]) λx1=>sh (bh a2 [.slice (some (al x1)) 1 2,vi 0]) λx2=>sh (aE [.sl,li] a2) λ(x3:Sl×Int)=>AI ((x3.1,x3.2),0)
def vf (n:Nat)(a0:Int)(a1:ζ):M ((Sl×Int)×Int):=sh (aF none aj [aO,vi 0]) λx0=>if decide (a0<0) then sh (bh (al x0) [aO,vi 0]) λx1=>sh (aE [.sl,li] (al x0)) λ(x2:Sl×Int)=>AI ((x2.1,x2.2),1) else if decide (8<a0) then sh (bh (al x0) [aO,vi 0]) λx1=>sh (aE [.sl,li] (al x0)) λ(x2:Sl×Int)=>AI ((x2.1,x2.2),1) else qK n a0 a1 (al x0)
abbrev adb (n:Nat):dv:=⟨21,[aw,qG],[.agg [.sl,.int .i64],aw],υ2 (vf n)⟩
abbrev aeU (n:Nat):List (jm ((Sl×Int)×Int)):=[⟨[0,0,1,1],[.code [1,0,1,1],.code [1,1,1]],[(0,aw),(1,qG),(4,aB)],υ3 (qK n)⟩]
theorem E5 (n:Nat):aK TZp (adb n):=bw Tryz.f21 (xF n) (js:=aeU n) (hT:=⟨.nil,K13 n,.nil,.nil,(.cc .nil)⟩)
abbrev C14 (n:Nat):List dv:=ada n::adb n::xF n
theorem K14 (n:Nat):eE TZp (C14 n):=.cons (HY n) (.cons (E5 n) (K13 n))
def ou (G:Addr->Sl->Sl->Int->Int->M (Unit⊕Int))(n:Nat)(a0:Addr)(a1 a2:Sl)(a3 a4:Int):M (Unit⊕Int):=if decide (a4<a3) then sh (ar a2 a4 1) λx0=>sh (aq .bool x0) λ(x1:Bool)=>if x1 then sh (ar a1 a4 1) λx2=>sh (aq li x2) λ(x3:Int)=>if !decide (x3=1) then AI (Sum.inr 3) else G a0 a1 a2 a3 (i64.wrap (a4+1)) else G a0 a1 a2 a3 (i64.wrap (a4+1)) else AI (Sum.inl ())
def jN:Nat->Addr->Sl->Sl->Int->Int->M (Unit⊕Int)|0=>λ_ _ _ _ _=>AS|n+1=>ou (jN n) n
theorem AR (n:Nat):jN (n+1)=ou (jN n) n:=rfl
def ov (G:Addr->Sl->Sl->Int->Int->M (Unit⊕Int))(n:Nat)(a0:Addr)(a1 a2:Sl)(a3 a4:Int):M (Unit⊕Int):=if decide (a4<a3) then sh (ar a2 a4 5) λx0=>sh (aE [li,.str,.bool,.sl,.sl] x0) λ(x1:Int×ζ×Bool×Sl×Sl)=>sh (aF none aA [vi 0,.string (ofBytes []),.bool false,aO,aO]) λx2=>sh (bh (al x2) [vi x1.1,.string x1.2.1,.bool x1.2.2.1,aI x1.2.2.2.1,aI x1.2.2.2.2]) λx3=>sh (ar a1 a4 1) λx4=>sh (aq .bool x4) λ(x5:Bool)=>if !x5 then AI (Sum.inr 3) else sh (aE [li,.str,.bool,.sl,.sl] (al x2)) λ(x6:Int×ζ×Bool×Sl×Sl)=>sh (tL n (x6.1,x6.2.1,x6.2.2.1,x6.2.2.2.1,x6.2.2.2.2)) λx7=>if !x7 then AI (Sum.inr 3) else G a0 a1 a2 a3 (i64.wrap (a4+1)) else AI (Sum.inl ())
def jO:Nat->Addr->Sl->Sl->Int->Int->M (Unit⊕Int)|0=>λ_ _ _ _ _=>AS|n+1=>ov (jO n) n
theorem AU (n:Nat):jO (n+1)=ov (jO n) n:=rfl
def pP (n:Nat)(a0:Addr):M Int:=sh (aq .sl (a0.plus 0)) λ(x0:Sl)=>sh (qM none Bp [.bool false] (x0.len:Int) (x0.len:Int)) λx1=>sh (aE [.sl,li] a0) λ(x2:Sl×Int)=>sh (aq li (a0.plus 1)) λ(x3:Int)=>sh (nz n (x2.1,x2.2) x3 x1) λx4=>sh (aq .sl (a0.plus 0)) λ(x5:Sl)=>sh (jO n a0 x1 x5 (x5.len:Int) 0) (cz (λx6=>sh (aE [.sl,li] a0) λ(x7:Sl×Int)=>sh (oQ n (x7.1,x7.2)) λx8=>sh (aE [.sl,li] a0) λ(x9:Sl×Int)=>sh (qa n (x9.1,x9.2)) λfD=>sh (jN n a0 x8 fD (fD.len:Int) 0) (cz (λx11=>sh (aE [.sl,li] a0) λ(x12:Sl×Int)=>sh (rr n (x12.1,x12.2)) λx13=>if x13 then AI 8 else sh (aE [.sl,li] a0) λ(jj:Sl×Int)=>sh (pN n (jj.1,jj.2)) λx15=>if decide (32<x15.1) then AI 5 else AI 0) (λx11=>AI x11))) (λx6=>AI x6))
def dZ (n:Nat)(a0:Sl×Int):M Int:=sh (aF none aj [aI a0.1,vi a0.2]) λx0=>sh (aq .sl ((al x0).plus 0)) λ(x1:Sl)=>if decide (4096<(x1.len:Int)) then AI 7 else sh (aq .sl ((al x0).plus 0)) λ(x2:Sl)=>if decide ((x2.len:Int)=0) then AI 3 else sh (aE [.sl,li] (al x0)) λ(x3:Sl×Int)=>sh (pf n (x3.1,x3.2)) λx4=>if !x4 then AI 3 else pP n (al x0)
abbrev ade (n:Nat):dv:=⟨12,[.agg [.sl,.int .i64]],[aw],λx=>dZ n x⟩
abbrev KJ:L2:=⟨[0,1,0,1,1,1,1,1],[(1,aB),(3,cw),(34,cw),(35,aw),(36,aw)],[],[(2,aw)],[2,4,5]++List.range' 36 16,0,.ret,λn=>υ5 (jO n)⟩
abbrev KK:L2:=⟨[0,1,0,1,1,1,1,1,1,1],[(1,aB),(6,cw),(55,cw),(56,aw),(57,aw)],[],[(2,aw)],[2,7,8]++List.range' 57 14,2,.ret,λn=>υ5 (jN n)⟩
abbrev aeV (n:Nat):List (jm Int):=[⟨[0,1,1,1],[.code [1,1,1,1]],[(1,aB)],λx=>pP n x⟩]
theorem TX (n:Nat):lA TZp Tryz.f12 (KK.e n) KK.ws:=L2.ok Tryz.f12 KK n C14 (hT:=λm _=>.m1 (K14 m))
theorem TY (n:Nat):lA TZp Tryz.f12 (KJ.e n) KJ.ws:=L2.ok Tryz.f12 KJ n C14 (hT:=λm _=>.m1 (K14 m))
theorem GS (n:Nat):aK TZp (ade n):=bw Tryz.f12 (C14 n) (ll:=[KJ.e n,KK.e n]) (js:=aeV n) (hT:=⟨.nil,K14 n,.nil,(.cc (TY n) (.cc (TX n) .nil)),(.cc .nil)⟩)
structure ay where
 cW:Addr->Addr->Sl->Int->Int->M Unit
 cX:Addr->Addr->Sl->Int->Int->M Unit
 cY:Addr->Sl->Int->Int->M Unit
 dj:θ->Int->M Unit
def kB (G:ay)(n:Nat)(a0 a1:Addr)(a2:Sl)(a3 a4:Int):M Unit:=if decide (a4<a3) then sh (ar a2 a4 1) λx0=>sh (aq li x0) λ(x1:Int)=>sh (aq .ptr a0) λ(x2:θ)=>sh (aq .ptr a0) λ(x3:θ)=>sh (nn x3) λx4=>sh (aq .sl ((x4.plus 0).plus 0)) λ(x5:Sl)=>sh (aq .sl (a1.plus 3)) λ(x6:Sl)=>sh (ar x6 x1 1) λx7=>sh (aq li x7) λ(x8:Int)=>sh (ar x5 x8 5) λx9=>sh (aq .str (x9.plus 1)) λ(fD:ζ)=>sh (gW n x2 fD) λx11=>sh (aq .ptr a0) λ(x12:θ)=>sh (aq .sl (a1.plus 4)) λ(x13:Sl)=>sh (ar x13 x1 1) λjj=>sh (aq li jj) λ(x15:Int)=>sh (G.dj x12 x15) λrz=>G.cW a0 a1 a2 a3 (i64.wrap (a4+1)) else AI ()
def kC (G:ay)(n:Nat)(a0 a1:Addr)(a2:Sl)(a3 a4:Int):M Unit:=if decide (a4<a3) then sh (ar a2 a4 1) λx0=>sh (bh x0 [vi a4]) λx1=>G.cX a0 a1 a2 a3 (i64.wrap (a4+1)) else AI ()
def kD (G:ay)(n:Nat)(a0:Addr)(a1:Sl)(a2 a3:Int):M Unit:=if decide (a3<a2) then sh (ar a1 a3 1) λx0=>sh (aq li x0) λ(x1:Int)=>sh (aq .ptr a0) λ(x2:θ)=>sh (G.dj x2 x1) λx3=>G.cY a0 a1 a2 (i64.wrap (a3+1)) else AI ()
def eV (G:ay)(n:Nat)(a0 a1:Addr):M Unit:=sh (aq .ptr a0) λ(x0:θ)=>sh (nn x0) λx1=>sh (aq li (x1.plus 4)) λ(x2:Int)=>if !decide (x2=0) then AI () else sh (aq li (a1.plus 0)) λ(x3:Int)=>if decide (x3=2) then sh (aq .ptr a0) λ(x4:θ)=>sh (nn x4) λx5=>sh (aq .str (a1.plus 1)) λ(x6:ζ)=>sh (nN (ofBytes [105]) x6) λx7=>sh (nN x7 (ofBytes [101])) λx8=>sh (dQ n (some (x5.plus 2)) x8) λx9=>AI () else if decide (x3=9) then sh (aq .ptr a0) λ(x4:θ)=>sh (nn x4) λx5=>sh (cy n (some (x5.plus 2)) 108) λx6=>sh (aq .sl (a1.plus 4)) λ(x7:Sl)=>sh (G.cY a0 x7 (x7.len:Int) 0) λx8=>sh (aq .ptr a0) λ(x9:θ)=>sh (nn x9) λfD=>sh (cy n (some (fD.plus 2)) 101) λx11=>AI () else if decide (x3=10) then sh (aq .ptr a0) λ(x4:θ)=>sh (nn x4) λx5=>sh (cy n (some (x5.plus 2)) 100) λx6=>sh (aq .sl (a1.plus 3)) λ(x7:Sl)=>sh (qM none an [vi 0] (x7.len:Int) (x7.len:Int)) λx8=>sh (G.cX a0 a1 x8 (x8.len:Int) 0) λx9=>sh (cp n x8 (Value.func (Fn.func kI) #[] #[.pointer (some a0),.pointer (some a1)])) λfD=>sh (G.cW a0 a1 x8 (x8.len:Int) 0) λx11=>sh (aq .ptr a0) λ(x12:θ)=>sh (nn x12) λx13=>sh (cy n (some (x13.plus 2)) 101) λjj=>AI () else sh (aq .ptr a0) λ(x4:θ)=>sh (aq .str (a1.plus 1)) λ(x5:ζ)=>sh (gW n x4 x5) λx6=>AI ()
def lZ (G:ay)(n:Nat)(a0:θ)(a1:Int):M Unit:=sh (aF none rq [.pointer a0]) λx0=>sh (aq .ptr (al x0)) λ(x1:θ)=>sh (nn x1) λx2=>sh (aq .sl ((x2.plus 0).plus 0)) λ(x3:Sl)=>sh (ar x3 a1 5) λx4=>sh (aE [li,.str,.bool,.sl,.sl] x4) λ(x5:Int×ζ×Bool×Sl×Sl)=>sh (aF none aA [vi 0,.string (ofBytes []),.bool false,aO,aO]) λx6=>sh (bh (al x6) [vi x5.1,.string x5.2.1,.bool x5.2.2.1,aI x5.2.2.2.1,aI x5.2.2.2.2]) λx7=>sh (aq .ptr (al x0)) λ(x8:θ)=>sh (nn x8) λx9=>sh (aq li (x9.plus 4)) λ(fD:Int)=>if decide (fD=0) then sh (aq .ptr (al x0)) λ(x11:θ)=>sh (aq .ptr (al x0)) λ(x12:θ)=>sh (aE [li,.str,.bool,.sl,.sl] (al x6)) λ(x13:Int×ζ×Bool×Sl×Sl)=>sh (k8 [some (al x0)] (jr n x12 (x13.1,x13.2.1,x13.2.2.1,x13.2.2.2.1,x13.2.2.2.2))) λjj=>sh (nn x11) λx15=>sh (bh (x15.plus 4) [vi jj]) λrz=>eV G n (al x0) (al x6) else eV G n (al x0) (al x6)
def ay.at:Nat->ay|0=>⟨λ_ _ _ _ _=>AS,λ_ _ _ _ _=>AS,λ_ _ _ _=>AS,λ_ _=>AS⟩|n+1=>⟨kB (ay.at n) n,kC (ay.at n) n,kD (ay.at n) n,lZ (ay.at n) n⟩
def cW (n:Nat):=(ay.at n).cW
theorem s7 (n:Nat):cW (n+1)=kB (ay.at n) n:=rfl
def cX (n:Nat):=(ay.at n).cX
theorem s9 (n:Nat):cX (n+1)=kC (ay.at n) n:=rfl
def cY (n:Nat):=(ay.at n).cY
theorem ta (n:Nat):cY (n+1)=kD (ay.at n) n:=rfl
def dj (n:Nat):=(ay.at n).dj
theorem uM (n:Nat):dj (n+1)=lZ (ay.at n) n:=rfl
def v7 (n:Nat):=eV (ay.at n) n
abbrev XA (n:Nat):dv:=⟨15,[BZ,aw],[],υ2 (dj n)⟩
abbrev KL:L1:=⟨[0,1,0,1,0,1,1,1,0,1,1,1,1,1],[(2,aB),(58,cw),(59,aw),(60,aw)],[],[6]++List.range' 60 8,1,λn=>υ4 (cY n)⟩
abbrev KM:L1:=⟨[0,1,0,1,1,0,1,1,1,1,1,0,1,1,1,1,1],[(2,aB),(4,aB),(7,cw),(83,aw),(84,aw)],[],[8]++List.range' 84 8,3,λn=>υ5 (cX n)⟩
abbrev KO:L1:=⟨[0,1,0,1,1,1,1,0,1,1,1,1,1,0,1,1,1,1,1],[(2,aB),(4,aB),(95,cw),(96,aw),(97,aw)],[],[10]++List.range' 97 27,5,λn=>υ5 (cW n)⟩
abbrev C15 (n:Nat):List dv:=XA n::C14 n
def KP (i:Nat):Option (List (Nat×η)):=Κ i 3 (Ω [0,1,2]++[(3,[0])]++Ω [4,5,6]) (Κ i 8 (Ω [3,0,1,2,4,5,6,7]) (Κ i 29 (Ω [6,8,0,1,2,3,4,5,7,9,10,11,12,13,14]) (Κ i 30 (Ω [1,3,0,2,4,5,6]) none)))
abbrev aeW (n:Nat):List (jm Unit):=[⟨[0,0,1,1,1],[.code [1,0,1,1,1],.code [1,1,1,1]],[(2,aB),(4,aB)],υ2 (v7 n)⟩]
def eM (n:Nat):Prop:=aK TZp (XA n)
theorem Ns (n:Nat)(H:eM n):eE TZp (C15 n):=.cons H (K14 n)
theorem T0 (n:Nat)(H:∀m,m<n->eM m):lA TZp Tryz.f15 (KO.e n) KO.ws:=L1.ok Tryz.f15 KO n C15 (dr:=KP) (hT:=λm hm=>.m1 (Ns m (H m hm)))
theorem T4 (n:Nat)(H:∀m,m<n->eM m):lA TZp Tryz.f15 (KM.e n) KM.ws:=L1.ok Tryz.f15 KM n C15 (dr:=KP) (hT:=λm hm=>.m1 (Ns m (H m hm)))
theorem T5 (n:Nat)(H:∀m,m<n->eM m):lA TZp Tryz.f15 (KL.e n) KL.ws:=L1.ok Tryz.f15 KL n C15 (dr:=KP) (hT:=λm hm=>.m1 (Ns m (H m hm)))
theorem tc (n:Nat)(H:∀m,m<n+1->eM m):aK TZp (XA (n+1)):=bw Tryz.f15 (C15 n) (ll:=[KL.e n,KM.e n,KO.e n]) (dr:=KP) (js:=aeW n) (hT:=⟨.nil,Ns n (H n (IT n)),.nil,(.cc (T5 n (λk hk=>H k (adf hk))) (.cc (T4 n (λk hk=>H k (adf hk))) (.cc (T0 n (λk hk=>H k (adf hk))) .nil))),(.cc .nil)⟩)
theorem uC:∀n m,m<n->eM m:=by
 intro n
 induction n with
 |zero=>intro m hm;exact absurd hm (ahR m)
 |succ n ih=>
  intro m hm;cases m with
  |zero=>exact gf (fn:=Tryz.f15) (by kernel_rfl) (by kernel_rfl) (by kernel_rfl) (λ_=>rfl)
  |succ k=>exact tc k λm hm=>ih m (by omega)
theorem K15 (n:Nat):eE TZp (C15 n):=Ns n (uC (n+1) n (IT n))
def aZ (n:Nat)(a0:Int)(a1:ζ):M (Sl×Int):=sh (aF none aj [aO,vi 0]) λx0=>sh (vf n a0 a1) λx1=>sh (aF none aj [aO,vi 0]) λx2=>sh (bh (al x2) [aI x1.1.1,vi x1.1.2]) λx3=>sh (aE [.sl,li] (al x2)) λ(x4:Sl×Int)=>sh (bh (al x0) [aI x4.1,vi x4.2]) λx5=>sh (aE [.sl,li] (al x0)) λ(x6:Sl×Int)=>AI (x6.1,x6.2)
abbrev ag9 (n:Nat):dv:=⟨9,[aw,qG],[.agg [.sl,.int .i64]],υ2 (aZ n)⟩
theorem yp (n:Nat):aK TZp (ag9 n):=bw Tryz.f9 (C15 n) (hT:=.m1 (K15 n))
structure bg where
 j9:Addr->Addr->Int->θ->Addr->Sl->Int->Int->M Unit
 iI:Int->Addr->Addr->Addr->Addr->Addr->Addr->M Int
def jP (G:bg)(n:Nat)(x:ξ)(a0:Int):M Int:=if qo pY x then sh (k7 [aB,aB,aB,aB,aB,aB] x) λ(c:Addr×Addr×Addr×Addr×Addr×Addr)=>G.iI a0 c.1 c.2.1 c.2.2.1 c.2.2.2.1 c.2.2.2.2.1 c.2.2.2.2.2 else AS
abbrev uD:=jP
def iH (G:bg)(n:Nat)(a0 a1:Addr)(a2:Int)(a3:θ)(a4:Addr)(a5:Int)(a6:Sl)(a7 a8:Int):M Unit:=sh (nn a3) λx0=>sh (aq .sl (a4.plus 4)) λ(x1:Sl)=>sh (aq .raw a0) λ(x2:ξ)=>sh (aq .sl (x0.plus 4)) λ(x3:Sl)=>sh (ar x3 a5 1) λx4=>sh (aq li x4) λ(x5:Int)=>sh (k8 [some (a4.plus 4)] (uD G n x2 x5)) λx6=>sh (app true x1 1 an 1 [vi x6]) λx7=>sh (bh (a4.plus 4) [aI x7]) λx8=>G.j9 a0 a1 a2 a3 a4 a6 a7 (i64.wrap (a8+1))
def qk (G:bg)(n:Nat)(a0 a1:Addr)(a2:Int)(a3:θ)(a4:Addr)(a5:Sl)(a6 a7:Int):M Unit:=if decide (a7<a6) then sh (ar a5 a7 1) λx0=>sh (aq li x0) λ(x1:Int)=>sh (nn a3) λx2=>sh (aq li (x2.plus 0)) λ(x3:Int)=>if decide (x3=10) then sh (nn a3) λx4=>sh (aq .sl (a4.plus 3)) λ(x5:Sl)=>sh (aq .raw a0) λ(x6:ξ)=>sh (aq .sl (x4.plus 3)) λ(x7:Sl)=>sh (ar x7 x1 1) λx8=>sh (aq li x8) λ(x9:Int)=>sh (k8 [some (a4.plus 3)] (jP G n x6 x9)) λfD=>sh (app true x5 1 an 1 [vi fD]) λx11=>sh (bh (a4.plus 3) [aI x11]) λx12=>iH G n a0 a1 a2 a3 a4 x1 a5 a6 a7 else iH G n a0 a1 a2 a3 a4 x1 a5 a6 a7 else AI ()
def tO (G:bg)(n:Nat)(a0:Int)(a1 a2 a3 a4 a5 a6:Addr):M Int:=sh (aq .sl a1) λ(x0:Sl)=>sh (ar x0 a0 1) λx1=>sh (aq li x1) λ(x2:Int)=>if decide (0<=x2) then sh (aq .sl a1) λ(x3:Sl)=>sh (ar x3 a0 1) λx4=>sh (aq li x4) λ(x5:Int)=>AI x5 else sh (aq li a2) λ(x3:Int)=>sh (aq .sl a1) λ(x4:Sl)=>sh (ar x4 a0 1) λx5=>sh (bh x5 [vi x3]) λx6=>sh (aq li a2) λ(x7:Int)=>sh (bh a2 [vi (i64.wrap (x7+1))]) λx8=>sh (aq .sl (a3.plus 0)) λ(x9:Sl)=>sh (ar x9 a0 5) λfD=>sh (dz 15) λx11=>sh (nn (some fD)) λx12=>sh (nn (some fD)) λx13=>sh (nn (some fD)) λjj=>sh (aq li (x12.plus 0)) λ(x15:Int)=>sh (aq .str (x13.plus 1)) λ(rz:ζ)=>sh (aq .bool (jj.plus 2)) λ(x17:Bool)=>sh (aF (some (x11+13)) aA [vi 0,.string (ofBytes []),.bool false,aO,aO]) λvB=>sh (bh (al vB) [vi x15,.string rz,.bool x17,aO,aO]) λx19=>sh (aq .ptr a4) λ(x20:θ)=>sh (ea n x20 a0) λx21=>sh (G.j9 a5 a6 x3 (some fD) (al vB) x21 (x21.len:Int) 0) λx22=>sh (aq .sl (a6.plus 0)) λ(x23:Sl)=>sh (aE [li,.str,.bool,.sl,.sl] (al vB)) λ(x24:Int×ζ×Bool×Sl×Sl)=>sh (ar x23 x3 5) λx25=>sh (bh x25 [vi x24.1,.string x24.2.1,.bool x24.2.2.1,aI x24.2.2.2.1,aI x24.2.2.2.2]) λx26=>AI x3
def bg.at:Nat->bg|0=>⟨λ_ _ _ _ _ _ _ _=>AS,λ_ _ _ _ _ _ _=>AS⟩|n+1=>⟨qk (bg.at n) n,tO (bg.at n) n⟩
def j9 (n:Nat):=(bg.at n).j9
def iI (n:Nat):=(bg.at n).iI
def BH (n:Nat):=jP (bg.at n) n
def BI (n:Nat):=uD (bg.at n) n
def zP (n:Nat):=iH (bg.at n) n
abbrev Q4 (n:Nat):dv:=⟨41,[aw,aB,aB,aB,aB,aB,aB],[aw],υ7 (iI n)⟩
abbrev KR:L1:=⟨[0,1,0,1,1,1,1,1,1,1],[(5,aB),(6,aB),(9,aw),(10,BZ),(11,aB),(49,cw),(50,aw),(51,aw)],[],[13]++List.range' 51 38,0,λn=>υ8 (j9 n)⟩
abbrev C16 (n:Nat):List dv:=Q4 n::C15 n
abbrev PH (n:Nat):List oZ:=[⟨62,[aw],[aw],λx a=>BH n x a⟩, ⟨76,[aw],[aw],λx a=>BI n x a⟩]
def XB (i:Nat):Option (List (Nat×η)):=Κ i 7 (Ω [0,1,2,4,5,6,8,9,10,3,7,11,12,13,14]) (Κ i 12 (Ω [0,3,4,5,7,1,2,6,8,9]++[(10,[1])]++Ω [11,12,13,14]) (Κ i 13 (Ω [0,3,4,5,7,1,2,6,8,9]++[(10,[1])]++Ω [11,12,13,14]) none))
abbrev T6 (n:Nat):List (jm Unit):=[⟨[1,1,0,0,1,1,0,0,1,0,1,1,1,1,1,1,1],[.au 1,.code [1,1,1,0,0,1,0,1,1,1,1,1,1,1]],[(5,aB),(6,aB),(9,aw),(10,BZ),(11,aB),(13,aw),(49,cw),(50,aw),(51,aw)],υ9 (zP n)⟩]
def ow (n:Nat):Prop:=aK TZp (Q4 n)
theorem XC (n:Nat)(H:ow n):eE TZp (C16 n):=.cons H (K15 n)
theorem XD (n:Nat)(H:ow n):pK TZp (PH n):=.cons (cS (l:=[⟨41,[aB,aB,aB,aB,aB,aB],λa c=>iI n a c.1 c.2.1 c.2.2.1 c.2.2.2.1 c.2.2.2.2.1 c.2.2.2.2.2⟩]) (.cons (λa c=>aD (by kernel_rfl) ((H) (a,c.1,c.2.1,c.2.2.1,c.2.2.2.1,c.2.2.2.2.1,c.2.2.2.2.2))) .nil) (λx a=>by kernel_rfl)) (.cons (cS (l:=[⟨41,[aB,aB,aB,aB,aB,aB],λa c=>iI n a c.1 c.2.1 c.2.2.1 c.2.2.2.1 c.2.2.2.2.1 c.2.2.2.2.2⟩]) (.cons (λa c=>aD (by kernel_rfl) ((H) (a,c.1,c.2.1,c.2.2.1,c.2.2.2.1,c.2.2.2.2.1,c.2.2.2.2.2))) .nil) (λx a=>by kernel_rfl)) .nil)
theorem T7 (n:Nat)(H:∀m,m<n->ow m):lA TZp Tryz.f41 (KR.e n) KR.ws:=L1.ok Tryz.f41 KR n C16 (dt:=PH) (dr:=XB) (jt:=T6) (hT:=λm hm=>⟨.nil,XC m (H m hm),(XD m (H m hm)),.nil,(.cc .nil)⟩)
theorem yq (n:Nat)(H:∀m,m<n+1->ow m):aK TZp (Q4 (n+1)):=bw Tryz.f41 (C16 n) (dl:=PH n) (ll:=[KR.e n]) (dr:=XB) (hT:=⟨.nil,XC n (H n (IT n)),(XD n (H n (IT n))),(.cc (T7 n (λk hk=>H k (adf hk))) .nil),.nil⟩)
theorem uE:∀n m,m<n->ow m:=by
 intro n
 induction n with
 |zero=>intro m hm;exact absurd hm (ahR m)
 |succ n ih=>
  intro m hm;cases m with
  |zero=>exact gf (fn:=Tryz.f41) (by kernel_rfl) (by kernel_rfl) (by kernel_rfl) (λ_=>rfl)
  |succ k=>exact yq k λm hm=>ih m (by omega)
theorem Cu (n:Nat):aK TZp (Q4 n):=(uE (n+1) n (IT n))
theorem K16 (n:Nat):eE TZp (C16 n):=XC n (uE (n+1) n (IT n))
abbrev C17 (n:Nat):List dv:=ade n::ag9 n::C16 n
theorem K17 (n:Nat):eE TZp (C17 n):=.cons (GS n) (.cons (yp n) (K16 n))
def wM (n:Nat)(a0:Sl×Int):M (Int×Bool):=sh (aF none aj [aI a0.1,vi a0.2]) λx0=>sh (aE [.sl,li] (al x0)) λ(x1:Sl×Int)=>sh (dZ n (x1.1,x1.2)) λx2=>if !decide (x2=0) then AI (0,false) else sh (aE [.sl,li] (al x0)) λ(x3:Sl×Int)=>sh (pN n (x3.1,x3.2)) λx4=>AI (x4.1,x4.2)
abbrev adg (n:Nat):dv:=⟨98,[.agg [.sl,.int .i64]],[aw,lS],λx=>wM n x⟩
theorem GU (n:Nat):aK TZp (adg n):=bw Tryz.f98 (C17 n) (hT:=.m1 (K17 n))
def qz (n:Nat)(a0:Sl×Int):M ((Sl×Int)×Int):=sh (aF none aj [aI a0.1,vi a0.2]) λx0=>sh (aF none aj [aO,vi 0]) λx1=>sh (aE [.sl,li] (al x0)) λ(x2:Sl×Int)=>sh (dZ n (x2.1,x2.2)) λx3=>if !decide (x3=0) then sh (bh (al x1) [aO,vi 0]) λx4=>sh (aE [.sl,li] (al x1)) λ(x5:Sl×Int)=>AI ((x5.1,x5.2),x3) else sh (aE [.sl,li] (al x0)) λ(x4:Sl×Int)=>sh (bh (al x1) [aI x4.1,vi x4.2]) λx5=>sh (aE [.sl,li] (al x1)) λ(x6:Sl×Int)=>AI ((x6.1,x6.2),0)
abbrev adh (n:Nat):dv:=⟨20,[.agg [.sl,.int .i64]],[.agg [.sl,.int .i64],aw],λx=>qz n x⟩
theorem DI (n:Nat):aK TZp (adh n):=bw Tryz.f20 (C17 n) (hT:=.m1 (K17 n))
def tP (n:Nat)(x:ξ)(a0:Int):M Int:=if qo pY x then sh (k7 [aB,aB,aB,aB,aB,aB] x) λ(c:Addr×Addr×Addr×Addr×Addr×Addr)=>iI n a0 c.1 c.2.1 c.2.2.1 c.2.2.2.1 c.2.2.2.2.1 c.2.2.2.2.2 else AS
def sB (G:Addr->Addr->Addr->Addr->Int->Int->M Unit)(n:Nat)(a0 a1 a2 a3:Addr)(a4 a5:Int):M Unit:=if decide (a5<a4) then sh (aq .sl a3) λ(x0:Sl)=>sh (ar x0 a5 1) λx1=>sh (bh x1 [vi (-1)]) λx2=>G a0 a1 a2 a3 a4 (i64.wrap (a5+1)) else AI ()
def mz:Nat->Addr->Addr->Addr->Addr->Int->Int->M Unit|0=>λ_ _ _ _ _ _=>AS|n+1=>sB (mz n) n
theorem zQ (n:Nat):mz (n+1)=sB (mz n) n:=rfl
def vg (n:Nat)(a0:Sl×Int):M (Sl×Int):=sh (aF none aj [aI a0.1,vi a0.2]) λx0=>sh (aF none aj [aO,vi 0]) λx1=>sh (aE [.sl,li] (al x0)) λ(x2:Sl×Int)=>sh (ux n (x2.1,x2.2)) λx3=>sh (aF none bF [.pointer none]) λx4=>sh (bh (al x4) [.pointer x3]) λx5=>sh (aq .sl ((al x0).plus 0)) λ(x6:Sl)=>sh (qM none an [vi 0] (x6.len:Int) (x6.len:Int)) λx7=>sh (aF none aR [aO]) λx8=>sh (bh (al x8) [aI x7]) λx9=>sh (aq .sl (al x8)) λ(fD:Sl)=>sh (mz n (al x0) (al x1) (al x4) (al x8) (fD.len:Int) 0) λx11=>sh (aq .sl ((al x0).plus 0)) λ(x12:Sl)=>sh (qM none aA [vi 0,.string (ofBytes []),.bool false,aO,aO] (x12.len:Int) (x12.len:Int)) λx13=>sh (aF none aj [aO,vi 0]) λjj=>sh (bh (al jj) [aI x13,vi 0]) λx15=>sh (aF none an [vi 0]) λrz=>sh (bh (al rz) [vi 0]) λx17=>sh (aF none kV [Value.nilFunc]) λvB=>sh (bh (al vB) [.func (Fn.func pY) #[] #[.pointer (some (al x8)),.pointer (some (al rz)),.pointer (some (al x0)),.pointer (some (al x4)),.pointer (some (al vB)),.pointer (some (al jj))]]) λx19=>sh (aq .raw (al vB)) λ(x20:ξ)=>sh (aq li ((al x0).plus 1)) λ(x21:Int)=>sh (tP n x20 x21) λx22=>sh (aE [.sl,li] (al jj)) λ(x23:Sl×Int)=>sh (bh (al x1) [aI x23.1,vi x23.2]) λx24=>sh (aE [.sl,li] (al x1)) λ(x25:Sl×Int)=>AI (x25.1,x25.2)
abbrev adi (n:Nat):dv:=⟨18,[.agg [.sl,.int .i64]],[.agg [.sl,.int .i64]],λx=>vg n x⟩
abbrev KS:L1:=⟨[0,1,0,1,1,1],[(1,aB),(2,aB),(3,aB),(4,aB),(16,aw),(17,aw)],[],[5]++List.range' 17 7,0,λn=>υ6 (mz n)⟩
abbrev PI (n:Nat):List oZ:=[⟨30,[aw],[aw],λx a=>tP n x a⟩]
theorem XE (n:Nat):pK TZp (PI n):=.cons (cS (l:=[⟨41,[aB,aB,aB,aB,aB,aB],λa c=>iI n a c.1 c.2.1 c.2.2.1 c.2.2.2.1 c.2.2.2.2.1 c.2.2.2.2.2⟩]) (.cons (λa c=>aD (by kernel_rfl) ((Cu n) (a,c.1,c.2.1,c.2.2.1,c.2.2.2.1,c.2.2.2.2.1,c.2.2.2.2.2))) .nil) (λx a=>by kernel_rfl)) .nil
theorem T8 (n:Nat):lA TZp Tryz.f18 (KS.e n) KS.ws:=L1.ok Tryz.f18 KS n C17 (dt:=PI) (hT:=λm _=>⟨.nil,K17 m,(XE m),.nil,.nil⟩)
theorem E6 (n:Nat):aK TZp (adi n):=bw Tryz.f18 (C17 n) (dl:=PI n) (ll:=[KS.e n]) (hT:=⟨.nil,K17 n,(XE n),(.cc (T8 n) .nil),.nil⟩)
abbrev ZE (n:Nat):List dv:=adg n::adh n::adi n::C17 n
theorem K18 (n:Nat):eE TZp (ZE n):=.cons (GU n) (.cons (DI n) (.cons (E6 n) (K17 n)))
def qA (n:Nat)(a0:Sl×Int):M Int:=sh (aF none aj [aI a0.1,vi a0.2]) λx0=>sh (aE [.sl,li] (al x0)) λ(x1:Sl×Int)=>sh (dZ n (x1.1,x1.2)) λx2=>if !decide (x2=0) then AI 3 else sh (aE [.sl,li] (al x0)) λ(x3:Sl×Int)=>sh (wM n (x3.1,x3.2)) λx4=>if !x4.2 then AI 14 else AI 0
abbrev adj (n:Nat):dv:=⟨72,[.agg [.sl,.int .i64]],[aw],λx=>qA n x⟩
theorem DJ (n:Nat):aK TZp (adj n):=bw Tryz.f72 (ZE n) (hT:=.m1 (K18 n))
def uN (G:Addr->Sl->Sl->Int->Int->M Sl)(n:Nat)(a0:Addr)(a1 a2:Sl)(a3 a4:Int):M Sl:=if decide (a4<a3) then sh (ar a2 a4 2) λx0=>sh (aE [.sl,li] x0) λ(x1:Sl×Int)=>sh (aF none aj [aO,vi 0]) λx2=>sh (bh (al x2) [aI x1.1,vi x1.2]) λx3=>sh (aE [.sl,li] (al x2)) λ(x4:Sl×Int)=>sh (nZ n a1 (x4.1,x4.2)) λx5=>sh (ar x5.1 0 5) λx6=>sh (aq .sl (x6.plus 4)) λ(x7:Sl)=>sh (app false x7 1 an 1 [vi x5.2]) λx8=>sh (ar x5.1 0 5) λx9=>sh (bh (x9.plus 4) [aI x8]) λfD=>G a0 x5.1 a2 a3 (i64.wrap (a4+1)) else AI a1
def qB:Nat->Addr->Sl->Sl->Int->Int->M Sl|0=>λ_ _ _ _ _=>AS|n+1=>uN (qB n) n
def uO (G:Sl->Addr->Sl->Sl->Int->Int->M (Unit⊕Int))(n:Nat)(a0:Sl)(a1:Addr)(a2 a3:Sl)(a4 a5:Int):M (Unit⊕Int):=if decide (a5<a4) then sh (ar a3 a5 2) λx0=>sh (aE [.sl,li] x0) λ(x1:Sl×Int)=>sh (aF none aj [aO,vi 0]) λx2=>sh (bh (al x2) [aI x1.1,vi x1.2]) λx3=>sh (aE [.sl,li] (al x2)) λ(x4:Sl×Int)=>sh (dZ n (x4.1,x4.2)) λx5=>if !decide (x5=0) then sh (bh a1 [aO,vi 0]) λx6=>AI (Sum.inr 3) else G a0 a1 a2 a3 a4 (i64.wrap (a5+1)) else AI (Sum.inl ())
def qC:Nat->Sl->Addr->Sl->Sl->Int->Int->M (Unit⊕Int)|0=>λ_ _ _ _ _ _=>AS|n+1=>uO (qC n) n
def wa (n:Nat)(a0:Sl):M ((Sl×Int)×Int):=sh (aF none aj [aO,vi 0]) λx0=>sh (aF none aA [vi 9,.string (ofBytes []),.bool false,aO,aO]) λx1=>sh (qC n a0 (al x0) { a:=some (al x1),len:=1,cap:=2 } a0 (a0.len:Int) 0) (cz (λx2=>sh (qB n (al x0) { a:=some (al x1),len:=1,cap:=2 } a0 (a0.len:Int) 0) λx3=>sh (qz n (x3,0)) λx4=>sh (bh (al x0) [aI x4.1.1,vi x4.1.2]) λx5=>sh (aE [.sl,li] (al x0)) λ(x6:Sl×Int)=>AI ((x6.1,x6.2),x4.2)) (λx2=>sh (aE [.sl,li] (al x0)) λ(x3:Sl×Int)=>AI ((x3.1,x3.2),x2)))
abbrev ahc (n:Nat):dv:=⟨8,[cw],[.agg [.sl,.int .i64],aw],λx=>wa n x⟩
abbrev Q5:L2:=⟨[0,1,0,1,1],[(0,cw),(2,aB),(4,cw),(12,cw),(13,aw),(14,aw)],[],[(3,aw)],[3,6]++List.range' 14 9,0,.ret,λn=>υ6 (qC n)⟩
abbrev Q6:L1:=⟨[0,1,0,1,1,1],[(2,aB),(4,cw),(23,cw),(24,aw),(25,aw)],[(4,cw)],[4,8,9]++List.range' 25 21,2,λn=>υ5 (qB n)⟩
theorem XF (n:Nat):lA TZp Tryz.f8 (Q6.e n) Q6.ws:=L1.ok Tryz.f8 Q6 n ZE (hT:=λm _=>.m1 (K18 m))
theorem XG (n:Nat):lA TZp Tryz.f8 (Q5.e n) Q5.ws:=L2.ok Tryz.f8 Q5 n ZE (hT:=λm _=>.m1 (K18 m))
theorem HZ (n:Nat):aK TZp (ahc n):=bw Tryz.f8 (ZE n) (ll:=[Q5.e n,Q6.e n]) (hT:=⟨.nil,K18 n,.nil,(.cc (XG n) (.cc (XF n) .nil)),.nil⟩)
def wb (G:Addr->Sl->Sl->Int->Int->M (Sl⊕Int))(n:Nat)(a0:Addr)(a1 a2:Sl)(a3 a4:Int):M (Sl⊕Int):=if decide (a4<a3) then sh (ar a2 a4 4) λx0=>sh (aE [.sl,li,.sl,li] x0) λ(x1:Sl×Int×Sl×Int)=>sh (aF none u6 [aO,vi 0,aO,vi 0]) λx2=>sh (bh (al x2) [aI x1.1,vi x1.2.1,aI x1.2.2.1,vi x1.2.2.2]) λx3=>sh (aE [.sl,li] ((al x2).plus 0)) λ(x4:Sl×Int)=>sh (vc n (x4.1,x4.2)) λx5=>if x5 then sh (bh a0 [aO,vi 0]) λx6=>AI (Sum.inr 16) else sh (aE [.sl,li] ((al x2).plus 0)) λ(x6:Sl×Int)=>sh (nZ n a1 (x6.1,x6.2)) λx7=>sh (aE [.sl,li] ((al x2).plus 2)) λ(x8:Sl×Int)=>sh (nZ n x7.1 (x8.1,x8.2)) λx9=>sh (ar x9.1 0 5) λfD=>sh (aq .sl (fD.plus 3)) λ(x11:Sl)=>sh (app false x11 1 an 1 [vi x7.2]) λx12=>sh (ar x9.1 0 5) λx13=>sh (bh (x13.plus 3) [aI x12]) λjj=>sh (ar x9.1 0 5) λx15=>sh (aq .sl (x15.plus 4)) λ(rz:Sl)=>sh (app false rz 1 an 1 [vi x9.2]) λx17=>sh (ar x9.1 0 5) λvB=>sh (bh (vB.plus 4) [aI x17]) λx19=>G a0 x9.1 a2 a3 (i64.wrap (a4+1)) else AI (Sum.inl a1)
def sC:Nat->Addr->Sl->Sl->Int->Int->M (Sl⊕Int)|0=>λ_ _ _ _ _=>AS|n+1=>wb (sC n) n
def wc (G:Bool->Sl->Addr->Sl->Int->Int->M (Unit⊕Int))(n:Nat)(a0:Bool)(a1:Sl)(a2:Addr)(a3:Sl)(a4 a5:Int):M (Unit⊕Int):=if decide (a5<a4) then sh (ar a3 a5 4) λx0=>sh (aE [.sl,li,.sl,li] x0) λ(x1:Sl×Int×Sl×Int)=>sh (aF none u6 [aO,vi 0,aO,vi 0]) λx2=>sh (bh (al x2) [aI x1.1,vi x1.2.1,aI x1.2.2.1,vi x1.2.2.2]) λx3=>sh (aE [.sl,li] ((al x2).plus 0)) λ(x4:Sl×Int)=>sh (dZ n (x4.1,x4.2)) λx5=>if !decide (x5=0) then sh (bh a2 [aO,vi 0]) λx6=>AI (Sum.inr 3) else sh (aE [.sl,li] ((al x2).plus 2)) λ(x6:Sl×Int)=>sh (dZ n (x6.1,x6.2)) λx7=>if !decide (x7=0) then sh (bh a2 [aO,vi 0]) λx8=>AI (Sum.inr 3) else G a0 a1 a2 a3 a4 (i64.wrap (a5+1)) else AI (Sum.inl ())
def sD:Nat->Bool->Sl->Addr->Sl->Int->Int->M (Unit⊕Int)|0=>λ_ _ _ _ _ _=>AS|n+1=>wc (sD n) n
def xx (n:Nat)(a0:Bool)(a1:Sl):M ((Sl×Int)×Int):=sh (aF none aj [aO,vi 0]) λx0=>sh (sD n a0 a1 (al x0) a1 (a1.len:Int) 0) (cz (λx1=>sh (aF none aA [vi 10,.string (ofBytes []),.bool a0,aO,aO]) λx2=>sh (sC n (al x0) { a:=some (al x2),len:=1,cap:=2 } a1 (a1.len:Int) 0) (cz (λx3=>sh (qz n (x3,0)) λx4=>sh (bh (al x0) [aI x4.1.1,vi x4.1.2]) λx5=>sh (aE [.sl,li] (al x0)) λ(x6:Sl×Int)=>AI ((x6.1,x6.2),x4.2)) (λx3=>sh (aE [.sl,li] (al x0)) λ(x4:Sl×Int)=>AI ((x4.1,x4.2),x3)))) (λx1=>sh (aE [.sl,li] (al x0)) λ(x2:Sl×Int)=>AI ((x2.1,x2.2),x1)))
abbrev adk (n:Nat):dv:=⟨10,[lS,cw],[.agg [.sl,.int .i64],aw],υ2 (xx n)⟩
abbrev KU:L2:=⟨[0,1,0,1],[(0,lS),(1,cw),(4,aB),(13,cw),(14,aw),(15,aw)],[],[(5,aw)],[5,7]++List.range' 15 16,0,.ret,λn=>υ6 (sD n)⟩
abbrev KV:L2:=⟨[0,1,0,1,1,1],[(4,aB),(8,cw),(34,cw),(35,aw),(36,aw)],[(8,cw)],[(5,aw)],[5,8,10,11,12]++List.range' 36 43,2,.ret,λn=>υ5 (sC n)⟩
theorem T9 (n:Nat):lA TZp Tryz.f10 (KV.e n) KV.ws:=L2.ok Tryz.f10 KV n ZE (hT:=λm _=>.m1 (K18 m))
theorem Ua (n:Nat):lA TZp Tryz.f10 (KU.e n) KU.ws:=L2.ok Tryz.f10 KU n ZE (hT:=λm _=>.m1 (K18 m))
theorem KW (n:Nat):aK TZp (adk n):=bw Tryz.f10 (ZE n) (ll:=[KU.e n,KV.e n]) (hT:=⟨.nil,K18 n,.nil,(.cc (Ua n) (.cc (T9 n) .nil)),.nil⟩)
def sE (n:Nat)(a0:Sl×Int):M ((Sl×Int)×Int):=sh (aF none aj [aI a0.1,vi a0.2]) λx0=>sh (aF none aj [aO,vi 0]) λx1=>sh (aE [.sl,li] (al x0)) λ(x2:Sl×Int)=>sh (dZ n (x2.1,x2.2)) λx3=>if !decide (x3=0) then sh (bh (al x1) [aO,vi 0]) λx4=>sh (aE [.sl,li] (al x1)) λ(x5:Sl×Int)=>AI ((x5.1,x5.2),3) else sh (aE [.sl,li] (al x0)) λ(x4:Sl×Int)=>sh (vg n (x4.1,x4.2)) λx5=>sh (bh (al x1) [aI x5.1,vi x5.2]) λx6=>sh (aE [.sl,li] (al x1)) λ(x7:Sl×Int)=>AI ((x7.1,x7.2),0)
abbrev aiE (n:Nat):dv:=⟨7,[.agg [.sl,.int .i64]],[.agg [.sl,.int .i64],aw],λx=>sE n x⟩
theorem E7 (n:Nat):aK TZp (aiE n):=bw Tryz.f7 (ZE n) (hT:=.m1 (K18 n))
end Go.Sh
