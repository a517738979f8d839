
import Derived.Test.YtcdofopdlaebaaaGreatDoorShLib
set_option linter.all false
set_option maxRecDepth 100000
set_option maxHeartbeats 0
namespace Go.Sh
open Go Go.Ago Go.Proofs Go.IntKind
noncomputable abbrev TZp:=Tryz.prog
abbrev J11:=Int×Int×Int×Int×Int×Int×Int×Int×Int×Int×Int
abbrev C0 (n:Nat):List bz:=[⟨128,[.one (.int .u64)],[.one (.int .i64)],λx=>cU n x⟩,⟨129,[.one (.int .u64),.one (.int .i64)],[.one (.str)],λx=>fS n x.1 x.2⟩,⟨194,[.one (.str),.one (.str)],[.one (.int .i64)],λx=>dK n x.1 x.2⟩,⟨131,[.one (.str),.one (.int .i64)],[.one (.str)],λx=>strings_Repeat n x.1 x.2⟩,⟨99,[.one (.f64)],[.one (.int .u64)],λx=>eU n x⟩,⟨103,[.one (.str),.one (.str)],[.one (.str)],λx=>gn n x.1 x.2⟩,⟨174,[.one (.ptr)],[.one (.ptr)],λx=>pO n x⟩,⟨52,[.one (.str),.one (.int .u8)],[.one (.int .i64)],λx=>strings_IndexByte n x.1 x.2⟩,⟨53,[.one (.str)],[.one (.int .i64),.one (.raw)],λx=>strconv_Atoi n x⟩,⟨54,[.one (.str),.one (.str)],[.one (.str)],λx=>strings_TrimPrefix n x.1 x.2⟩,⟨87,[.one (.int .i64)],[.one (.str)],λx=>strconv_Itoa n x⟩,⟨89,[.one (.int .u64)],[.one (.f64)],λx=>cY n x⟩,⟨122,[.one (.str),.one (.str)],[.one (.int .i64)],λx=>iG n x.1 x.2⟩,⟨59,[.one (.str),.one (.str)],[.one (.str),.one (.bool)],λx=>strings_CutPrefix n x.1 x.2⟩,⟨92,[.one (.int .u64)],[.one (.int .i64)],λx=>fJ n x⟩,⟨30,[.one (.str)],[.one (.int .i64),.one (.int .i64)],λx=>oM n x⟩,⟨63,[.one (.str),.one (.int .i64),.one (.int .i64)],[.one (.int .u64),.one (.raw)],λx=>ft n x.1 x.2.1 x.2.2⟩]
theorem K0 (n:Nat):aJ TZp (C0 n):=.cons (sA n) (.cons (vn n) (.cons (nQ n) (.cons (AP n) (.cons (yL n) (.cons (xA n) (.cons (AQ n) (.cons (xz n) (.cons (strconv_Atoi_ok n) (.cons (wZ n) (.cons (CM n) (.cons (vm n) (.cons (vY n) (.cons (xB n) (.cons (zL n) (.cons (zK n) (.cons (xC n) .nil))))))))))))))))
def o0 (G:Addr->Bool->Sl->Int->Int->Sl->Int->Int->Sl->Int->Int->M Bool)(n:Nat)(a0:Addr)(a1:Bool)(a2:Sl)(a3 a4:Int)(a5:Sl)(a6 a7:Int)(a8:Sl)(a9 a10:Int):M Bool:=if decide (a10<a9) then sh (av a8 a10 1) λx0=>sh (aq li x0) λ(x1:Int)=>if a1 then if decide (0<=x1) then sh (aq .sl (a0.plus 0)) λ(x2:Sl)=>G a0 (decide (x1<(↑x2.len:Int))) a2 a3 a4 a5 a6 a7 a8 a9 (i64.wrap (a10+1)) else G a0 false a2 a3 a4 a5 a6 a7 a8 a9 (i64.wrap (a10+1)) else G a0 false a2 a3 a4 a5 a6 a7 a8 a9 (i64.wrap (a10+1)) else AI a1
def iY:Nat->Addr->Bool->Sl->Int->Int->Sl->Int->Int->Sl->Int->Int->M Bool|0=>λ_ _ _ _ _ _ _ _ _ _ _=>AS|n+1=>o0 (iY n) n
theorem w3 (n:Nat):iY (n+1)=o0 (iY n) n:=rfl
def jh (G:Addr->Bool->Sl->Int->Int->Sl->Int->Int->M Bool)(n:Nat)(a0:Addr)(a1:Bool)(a2:Sl)(a3 a4:Int)(a5:Sl)(a6 a7:Int):M Bool:=if decide (a7<a6) then sh (av a5 a7 1) λx0=>sh (aq .sl x0) λ(x1:Sl)=>sh (iY n a0 a1 a2 a3 a4 a5 a6 a7 x1 (↑x1.len:Int) 0) λx2=>G a0 x2 a2 a3 a4 a5 a6 (i64.wrap (a7+1)) else AI a1
def iZ:Nat->Addr->Bool->Sl->Int->Int->Sl->Int->Int->M Bool|0=>λ_ _ _ _ _ _ _ _=>AS|n+1=>jh (iZ n) n
theorem mK (n:Nat):iZ (n+1)=jh (iZ n) n:=rfl
def o5 (G:Addr->Bool->Sl->Int->Int->M Bool)(n:Nat)(a0:Addr)(a1:Bool)(a2:Sl)(a3 a4:Int):M Bool:=if decide (a4<a3) then sh (av a2 a4 5) λx0=>sh (aI [li,.str,.bool,.sl,.sl] x0) λ(x1:Int×ByteArray×Bool×Sl×Sl)=>sh (aO none aw [vi 0,.string (ofBytes []),.bool false,aU,aU]) λx2=>sh (bG (ak x2) [vi x1.1,.string x1.2.1,.bool x1.2.2.1,aE x1.2.2.2.1,aE x1.2.2.2.2]) λx3=>sh (aq .sl ((ak x2).plus 3)) λ(x4:Sl)=>sh (aq .sl ((ak x2).plus 4)) λ(x5:Sl)=>sh (aO none aR [aE x4,aE x5]) λx6=>sh (iZ n a0 a1 a2 a3 a4 { a:=some (ak x6),len:=2,cap:=3 } (↑2:Int) 0) λx7=>G a0 x7 a2 a3 (i64.wrap (a4+1)) else AI a1
def ja:Nat->Addr->Bool->Sl->Int->Int->M Bool|0=>λ_ _ _ _ _=>AS|n+1=>o5 (ja n) n
theorem w4 (n:Nat):ja (n+1)=o5 (ja n) n:=rfl
def kL (n:Nat)(a0:Addr)(a1:Bool):M Bool:=sh (aq .sl (a0.plus 0)) λ(x0:Sl)=>sh (ja n a0 a1 x0 (↑x0.len:Int) 0) λx1=>AI x1
def rJ (n:Nat)(a0:Sl×Int):M Bool:=sh (aO none aj [aE a0.1,vi a0.2]) λx0=>sh (aq li ((ak x0).plus 1)) λ(x1:Int)=>if decide (0<=x1) then sh (aq li ((ak x0).plus 1)) λ(x2:Int)=>sh (aq .sl ((ak x0).plus 0)) λ(x3:Sl)=>kL n (ak x0) (decide (x2<(↑x3.len:Int))) else kL n (ak x0) false
abbrev ZH (n:Nat):bz:=⟨11,[.agg [.sl,.int .i64]],[jz],λx=>rJ n x⟩
abbrev H0:L1:=⟨[0,1,0,1,1],[(1,aK),(3,jz),(22,cJ),(23,aB),(24,aB)],[(3,jz)],[3,5,7,9]++List.range' 24 35,0,λn x=>ja n x.1 x.2.1 x.2.2.1 x.2.2.2.1 x.2.2.2.2⟩
abbrev H2:L1:=⟨[0,1,1,0,0,1,1,0,0,1,0,1,1],[(1,aK),(3,jz),(22,cJ),(23,aB),(24,aB),(32,cJ),(33,aB),(34,aB)],[(3,jz)],[3,7,9]++List.range' 34 24,2,λn x=>iZ n x.1 x.2.1 x.2.2.1 x.2.2.2.1 x.2.2.2.2.1 x.2.2.2.2.2.1 x.2.2.2.2.2.2.1 x.2.2.2.2.2.2.2⟩
abbrev H3:L1:=⟨[0,1,1,0,0,1,1,0,0,1,1,0,0,1,1,0,0,1,0,1,1],[(1,aK),(3,jz),(22,cJ),(23,aB),(24,aB),(32,cJ),(33,aB),(34,aB),(38,cJ),(39,aB),(40,aB)],[(3,jz)],[3,9]++List.range' 40 17,4,λn x=>iY n x.1 x.2.1 x.2.2.1 x.2.2.2.1 x.2.2.2.2.1 x.2.2.2.2.2.1 x.2.2.2.2.2.2.1 x.2.2.2.2.2.2.2.1 x.2.2.2.2.2.2.2.2.1 x.2.2.2.2.2.2.2.2.2.1 x.2.2.2.2.2.2.2.2.2.2⟩
abbrev abr (n:Nat):List (gj Bool):=[⟨[0,0,1,1],[.code [1,0,1,1],.code [1,1,1]],[(1,aK),(3,jz)],λx=>kL n x.1 x.2⟩]
theorem Q6 (n:Nat):kE TZp Tryz.f11 (H3.e n) H3.ws:=L1.ok Tryz.f11 H3 n C0 (hT:=λm _=>.m1 (K0 m))
theorem Q7 (n:Nat):kE TZp Tryz.f11 (H2.e n) H2.ws:=L1.ok Tryz.f11 H2 n C0 (lt:=λn=>[H3.e n]) (hT:=λm _=>⟨.nil,K0 m,.nil,(.cc (Q6 m) .nil),.nil⟩)
theorem Q8 (n:Nat):kE TZp Tryz.f11 (H0.e n) H0.ws:=L1.ok Tryz.f11 H0 n C0 (lt:=λn=>[H2.e n]) (hT:=λm _=>⟨.nil,K0 m,.nil,(.cc (Q7 m) .nil),.nil⟩)
theorem BG (n:Nat):aP TZp (ZH n):=bE Tryz.f11 (C0 n) (ll:=[H0.e n]) (js:=abr n) (hT:=⟨.nil,K0 n,.nil,(.cc (Q8 n) .nil),(.cc .nil)⟩)
abbrev C1 (n:Nat):List bz:=ZH n::C0 n
theorem K1 (n:Nat):aJ TZp (C1 n):=.cons (BG n) (K0 n)
structure aZ where
 fN:Int->Addr->Addr->Sl->Int->Int->M Unit
 fO:Addr->Sl->Int->Int->M Unit
 eP:Int->Addr->Addr->Addr->M Unit
def gI (G:aZ)(n:Nat)(x:Value)(a0:Int):M Unit:=if qw mY x then sh (oX [aK,aK,aK] x) λ(c:Addr×Addr×Addr)=>G.eP a0 c.1 c.2.1 c.2.2 else AS
abbrev mL:=gI
def nu (G:aZ)(n:Nat)(a0:Int)(a1 a2:Addr)(a3:Sl)(a4 a5:Int):M Unit:=if decide (a5<a4) then sh (av a3 a5 1) λx0=>sh (aq li x0) λ(x1:Int)=>sh (aq .raw a2) λ(x2:Value)=>sh (gI G n x2 x1) λx3=>G.fN a0 a1 a2 a3 a4 (i64.wrap (a5+1)) else AI ()
def nz (G:aZ)(n:Nat)(a0:Addr)(a1:Sl)(a2 a3:Int):M Unit:=if decide (a3<a2) then sh (av a1 a3 1) λx0=>sh (aq li x0) λ(x1:Int)=>sh (aq .raw a0) λ(x2:Value)=>sh (mL G n x2 x1) λx3=>G.fO a0 a1 a2 (i64.wrap (a3+1)) else AI ()
def pP (G:aZ)(n:Nat)(a0:Int)(a1 a2 a3:Addr):M Unit:=sh (aq .sl a1) λ(x0:Sl)=>sh (av x0 a0 1) λx1=>sh (aq .bool x1) λ(x2:Bool)=>if x2 then AI () else sh (aq .sl a1) λ(x3:Sl)=>sh (av x3 a0 1) λx4=>sh (bG x4 [.bool true]) λx5=>sh (aq .sl (a2.plus 0)) λ(x6:Sl)=>sh (av x6 a0 5) λx7=>sh (aq .sl (x7.plus 3)) λ(x8:Sl)=>sh (G.fN a0 a2 a3 x8 (↑x8.len:Int) 0) λx9=>sh (aq .sl (a2.plus 0)) λ(x10:Sl)=>sh (av x10 a0 5) λx11=>sh (aq .sl (x11.plus 4)) λ(x12:Sl)=>sh (G.fO a3 x12 (↑x12.len:Int) 0) λx13=>AI ()
def aZ.at:Nat->aZ|0=>⟨λ_ _ _ _ _ _=>AS,λ_ _ _ _=>AS,λ_ _ _ _=>AS⟩|n+1=>⟨nu (aZ.at n) n,nz (aZ.at n) n,pP (aZ.at n) n⟩
def fN (n:Nat):=(aZ.at n).fN
theorem vo (n:Nat):fN (n+1)=nu (aZ.at n) n:=rfl
def fO (n:Nat):=(aZ.at n).fO
theorem vp (n:Nat):fO (n+1)=nz (aZ.at n) n:=rfl
def eP (n:Nat):=(aZ.at n).eP
theorem xD (n:Nat):eP (n+1)=pP (aZ.at n) n:=rfl
def yM (n:Nat):=gI (aZ.at n) n
def yN (n:Nat):=mL (aZ.at n) n
abbrev Pk (n:Nat):bz:=⟨19,[aB,aK,aK,aK],[],λx=>eP n x.1 x.2.1 x.2.2.1 x.2.2.2⟩
abbrev H4:L1:=⟨[0,1,0,1,1],[(0,aB),(2,aK),(3,aK),(21,cJ),(22,aB),(23,aB)],[],[6]++List.range' 23 8,0,λn x=>fN n x.1 x.2.1 x.2.2.1 x.2.2.2.1 x.2.2.2.2.1 x.2.2.2.2.2⟩
abbrev H5:L1:=⟨[0,1,1,1,1],[(3,aK),(36,cJ),(37,aB),(38,aB)],[],[8]++List.range' 38 8,2,λn x=>fO n x.1 x.2.1 x.2.2.1 x.2.2.2⟩
abbrev C2 (n:Nat):List bz:=Pk n::C1 n
abbrev H6 (n:Nat):List jx:=[⟨27,[aB],[],λx a=>yM n x a⟩, ⟨42,[aB],[],λx a=>yN n x a⟩]
def hY (n:Nat):Prop:=aP TZp (Pk n)
theorem X9 (n:Nat)(H:hY n):aJ TZp (C2 n):=.cons H (K1 n)
theorem MY (n:Nat)(H:hY n):oY TZp (H6 n):=.cons (dq (l:=[⟨19,[aK,aK,aK],λa c=>eP n a c.1 c.2.1 c.2.2⟩]) (.cons (λa c=>aT (by kernel_rfl) ((H) (a,c.1,c.2.1,c.2.2))) .nil) (λx a=>by kernel_rfl)) (.cons (dq (l:=[⟨19,[aK,aK,aK],λa c=>eP n a c.1 c.2.1 c.2.2⟩]) (.cons (λa c=>aT (by kernel_rfl) ((H) (a,c.1,c.2.1,c.2.2))) .nil) (λx a=>by kernel_rfl)) .nil)
theorem Q9 (n:Nat)(H:∀m,m<n->hY m):kE TZp Tryz.f19 (H4.e n) H4.ws:=L1.ok Tryz.f19 H4 n C2 (dt:=H6) (hT:=λm hm=>⟨.nil,X9 m (H m hm),(MY m (H m hm)),.nil,.nil⟩)
theorem Rb (n:Nat)(H:∀m,m<n->hY m):kE TZp Tryz.f19 (H5.e n) H5.ws:=L1.ok Tryz.f19 H5 n C2 (dt:=H6) (hT:=λm hm=>⟨.nil,X9 m (H m hm),(MY m (H m hm)),.nil,.nil⟩)
theorem vq (n:Nat)(H:∀m,m<n+1->hY m):aP TZp (Pk (n+1)):=bE Tryz.f19 (C2 n) (dl:=H6 n) (ll:=[H4.e n,H5.e n]) (hT:=⟨.nil,X9 n (H n (aar n)),(MY n (H n (aar n))),(.cc (Q9 n (λk hk=>H k (abX hk))) (.cc (Rb n (λk hk=>H k (abX hk))) .nil)),.nil⟩)
theorem qL:∀n m,m<n->hY m:=by
 intro n
 induction n with
 |zero=>intro m hm;exact absurd hm (afv m)
 |succ n ih=>
  intro m hm;cases m with
  |zero=>exact fX (fn:=Tryz.f19) (by kernel_rfl) (by kernel_rfl) (by kernel_rfl) (λ_=>rfl)
  |succ k=>exact vq k λm hm=>ih m (by omega)
theorem zM (n:Nat):aP TZp (Pk n):=(qL (n+1) n (aar n))
theorem K2 (n:Nat):aJ TZp (C2 n):=X9 n (qL (n+1) n (aar n))
def qR (n:Nat)(x:Value)(a0:Int):M Unit:=if qw mY x then sh (oX [aK,aK,aK] x) λ(c:Addr×Addr×Addr)=>eP n a0 c.1 c.2.1 c.2.2 else AS
def mA (n:Nat)(a0:Sl×Int)(a1:Int)(a2:Sl):M Unit:=sh (aO none aj [aE a0.1,vi a0.2]) λx0=>sh (aO none yx [aE a2]) λx1=>sh (aO none vX [Value.nilFunc]) λx2=>sh (bG (ak x2) [.func (Fn.func mY) #[] #[.pointer (some (ak x1)),.pointer (some (ak x0)),.pointer (some (ak x2))]]) λx3=>sh (aq .raw (ak x2)) λ(x4:Value)=>sh (qR n x4 a1) λx5=>AI ()
abbrev ZI (n:Nat):bz:=⟨12,[.agg [.sl,.int .i64],aB,cJ],[],λx=>mA n x.1 x.2.1 x.2.2⟩
abbrev Um (n:Nat):List jx:=[⟨8,[aB],[],λx a=>qR n x a⟩]
theorem abt (n:Nat):oY TZp (Um n):=.cons (dq (l:=[⟨19,[aK,aK,aK],λa c=>eP n a c.1 c.2.1 c.2.2⟩]) (.cons (λa c=>aT (by kernel_rfl) ((zM n) (a,c.1,c.2.1,c.2.2))) .nil) (λx a=>by kernel_rfl)) .nil
theorem BH (n:Nat):aP TZp (ZI n):=bE Tryz.f12 (C2 n) (dl:=Um n) (hT:=⟨.nil,K2 n,(abt n),.nil,.nil⟩)
abbrev C3 (n:Nat):List bz:=ZI n::C2 n
theorem K3 (n:Nat):aJ TZp (C3 n):=.cons (BH n) (K2 n)
def mj (G:ByteArray->Int->Int->M (Unit⊕Bool))(n:Nat)(a0:ByteArray)(a1 a2:Int):M (Unit⊕Bool):=if decide (a2<a1) then sh (jd a0 a2) λx0=>if decide (97<=(↑x0.toNat:Int)) then if decide ((↑x0.toNat:Int)<=122) then G a0 a1 (i64.wrap (a2+1)) else if decide (65<=(↑x0.toNat:Int)) then if decide ((↑x0.toNat:Int)<=90) then G a0 a1 (i64.wrap (a2+1)) else if decide (48<=(↑x0.toNat:Int)) then if decide ((↑x0.toNat:Int)<=57) then G a0 a1 (i64.wrap (a2+1)) else if decide ((↑x0.toNat:Int)=95) then G a0 a1 (i64.wrap (a2+1)) else if decide ((↑x0.toNat:Int)=45) then G a0 a1 (i64.wrap (a2+1)) else if decide ((↑x0.toNat:Int)=46) then G a0 a1 (i64.wrap (a2+1)) else if !decide ((↑x0.toNat:Int)=58) then AI (Sum.inr false) else G a0 a1 (i64.wrap (a2+1)) else if decide ((↑x0.toNat:Int)=95) then G a0 a1 (i64.wrap (a2+1)) else if decide ((↑x0.toNat:Int)=45) then G a0 a1 (i64.wrap (a2+1)) else if decide ((↑x0.toNat:Int)=46) then G a0 a1 (i64.wrap (a2+1)) else if !decide ((↑x0.toNat:Int)=58) then AI (Sum.inr false) else G a0 a1 (i64.wrap (a2+1)) else if decide (48<=(↑x0.toNat:Int)) then if decide ((↑x0.toNat:Int)<=57) then G a0 a1 (i64.wrap (a2+1)) else if decide ((↑x0.toNat:Int)=95) then G a0 a1 (i64.wrap (a2+1)) else if decide ((↑x0.toNat:Int)=45) then G a0 a1 (i64.wrap (a2+1)) else if decide ((↑x0.toNat:Int)=46) then G a0 a1 (i64.wrap (a2+1)) else if !decide ((↑x0.toNat:Int)=58) then AI (Sum.inr false) else G a0 a1 (i64.wrap (a2+1)) else if decide ((↑x0.toNat:Int)=95) then G a0 a1 (i64.wrap (a2+1)) else if decide ((↑x0.toNat:Int)=45) then G a0 a1 (i64.wrap (a2+1)) else if decide ((↑x0.toNat:Int)=46) then G a0 a1 (i64.wrap (a2+1)) else if !decide ((↑x0.toNat:Int)=58) then AI (Sum.inr false) else G a0 a1 (i64.wrap (a2+1)) else if decide (65<=(↑x0.toNat:Int)) then if decide ((↑x0.toNat:Int)<=90) then G a0 a1 (i64.wrap (a2+1)) else if decide (48<=(↑x0.toNat:Int)) then if decide ((↑x0.toNat:Int)<=57) then G a0 a1 (i64.wrap (a2+1)) else if decide ((↑x0.toNat:Int)=95) then G a0 a1 (i64.wrap (a2+1)) else if decide ((↑x0.toNat:Int)=45) then G a0 a1 (i64.wrap (a2+1)) else if decide ((↑x0.toNat:Int)=46) then G a0 a1 (i64.wrap (a2+1)) else if !decide ((↑x0.toNat:Int)=58) then AI (Sum.inr false) else G a0 a1 (i64.wrap (a2+1)) else if decide ((↑x0.toNat:Int)=95) then G a0 a1 (i64.wrap (a2+1)) else if decide ((↑x0.toNat:Int)=45) then G a0 a1 (i64.wrap (a2+1)) else if decide ((↑x0.toNat:Int)=46) then G a0 a1 (i64.wrap (a2+1)) else if !decide ((↑x0.toNat:Int)=58) then AI (Sum.inr false) else G a0 a1 (i64.wrap (a2+1)) else if decide (48<=(↑x0.toNat:Int)) then if decide ((↑x0.toNat:Int)<=57) then G a0 a1 (i64.wrap (a2+1)) else if decide ((↑x0.toNat:Int)=95) then G a0 a1 (i64.wrap (a2+1)) else if decide ((↑x0.toNat:Int)=45) then G a0 a1 (i64.wrap (a2+1)) else if decide ((↑x0.toNat:Int)=46) then G a0 a1 (i64.wrap (a2+1)) else if !decide ((↑x0.toNat:Int)=58) then AI (Sum.inr false) else G a0 a1 (i64.wrap (a2+1)) else if decide ((↑x0.toNat:Int)=95) then G a0 a1 (i64.wrap (a2+1)) else if decide ((↑x0.toNat:Int)=45) then G a0 a1 (i64.wrap (a2+1)) else if decide ((↑x0.toNat:Int)=46) then G a0 a1 (i64.wrap (a2+1)) else if !decide ((↑x0.toNat:Int)=58) then AI (Sum.inr false) else G a0 a1 (i64.wrap (a2+1)) else AI (Sum.inl ())
def mB:Nat->ByteArray->Int->Int->M (Unit⊕Bool)|0=>λ_ _ _=>AS|n+1=>mj (mB n) n
def vZ (n:Nat)(a0:ByteArray):M Bool:=sh (mB n a0 (↑a0.size:Int) 0) (cw (λx0=>if decide (1<=(↑a0.size:Int)) then AI (decide ((↑a0.size:Int)<=64)) else AI false) (λx0=>AI x0))
abbrev ZJ (n:Nat):bz:=⟨20,[oe],[jz],λx=>vZ n x⟩
abbrev H7:L2:=⟨[0,1,0,1],[(0,oe),(6,aB),(7,aB)],[],[(2,jz)],[2,3,4]++List.range' 7 46,0,.ret,λn x=>mB n x.1 x.2.1 x.2.2⟩
theorem Rc (n:Nat):kE TZp Tryz.f20 (H7.e n) H7.ws:=L2.ok Tryz.f20 H7 n C3 (hT:=λm _=>.m1 (K3 m))
theorem Ga (n:Nat):aP TZp (ZJ n):=bE Tryz.f20 (C3 n) (ll:=[H7.e n]) (hT:=⟨.nil,K3 n,.nil,(.cc (Rc n) .nil),.nil⟩)
abbrev C4 (n:Nat):List bz:=ZJ n::C3 n
theorem K4 (n:Nat):aJ TZp (C4 n):=.cons (Ga n) (K3 n)
def pQ (G:Sl->M Sl)(n:Nat)(a0:Sl):M Sl:=if decide (0<(↑a0.len:Int)) then sh (av a0 (i64.wrap ((↑a0.len:Int)-1)) 1) λx0=>sh (aq (.int IntKind.u8) x0) λ(x1:Int)=>if decide (x1=0) then sh (kJ a0 0 (i64.wrap ((↑a0.len:Int)-1)) gC 1) λx2=>G x2 else AI a0 else AI a0
def ij:Nat->Sl->M Sl|0=>λ_=>AS|n+1=>pQ (ij n) n
theorem xE (n:Nat):ij (n+1)=pQ (ij n) n:=rfl
def v7 (n:Nat)(a0:Sl):M Sl:=sh (ij n a0) λx0=>AI x0
abbrev ZK (n:Nat):bz:=⟨51,[cJ],[cJ],λx=>v7 n x⟩
abbrev H8:L1:=⟨[0,0,1],[(0,cJ)],[(0,cJ)],[0]++List.range' 3 17,0,λn x=>ij n x⟩
theorem Rd (n:Nat):kE TZp Tryz.f51 (H8.e n) H8.ws:=L1.ok Tryz.f51 H8 n C4 (hT:=λm _=>.m1 (K4 m))
theorem CN (n:Nat):aP TZp (ZK n):=bE Tryz.f51 (C4 n) (ll:=[H8.e n]) (hT:=⟨.nil,K4 n,.nil,(.cc (Rd n) .nil),.nil⟩)
abbrev C5 (n:Nat):List bz:=ZK n::C4 n
theorem K5 (n:Nat):aJ TZp (C5 n):=.cons (CN n) (K4 n)
def nA (G:Addr->Addr->ByteArray->Int->Int->M (Unit⊕Bool))(n:Nat)(a0 a1:Addr)(a2:ByteArray)(a3 a4 a5:Int):M (Unit⊕Bool):=sh (jd a2 a3) λx0=>sh (aq .sl (a1.plus 1)) λ(x1:Sl)=>sh (av x1 (i64.wrap (i64.wrap ((↑a2.size:Int)-1)-a3)) 1) λx2=>sh (bG x2 [.int IntKind.u8 (IntKind.u8.wrap ((↑x0.toNat:Int)-48))]) λx3=>G a0 a1 a2 a4 (i64.wrap (a5+1))
def pR (G:Addr->Addr->ByteArray->Int->Int->M (Unit⊕Bool))(n:Nat)(a0 a1:Addr)(a2:ByteArray)(a3 a4:Int):M (Unit⊕Bool):=if decide (a4<a3) then sh (jd a2 a4) λx0=>if decide ((↑x0.toNat:Int)<48) then sh (bG a0 [.bool false,aU]) λx1=>AI (Sum.inr false) else sh (jd a2 a4) λx1=>if decide (57<(↑x1.toNat:Int)) then sh (bG a0 [.bool false,aU]) λx2=>AI (Sum.inr false) else nA G n a0 a1 a2 a4 a3 a4 else AI (Sum.inl ())
def im:Nat->Addr->Addr->ByteArray->Int->Int->M (Unit⊕Bool)|0=>λ_ _ _ _ _=>AS|n+1=>pR (im n) n
theorem xF (n:Nat):im (n+1)=pR (im n) n:=rfl
def zN (n:Nat):=nA (im n) n
def jJ (n:Nat)(a0 a1:Addr)(a2:ByteArray):M ((Bool×Sl)×Bool):=sh (vc none gC [.int IntKind.u8 0] (↑a2.size:Int) (↑a2.size:Int)) λx0=>sh (bG (a1.plus 1) [aE x0]) λx1=>sh (im n a0 a1 a2 (↑a2.size:Int) 0) (cw (λx2=>sh (aq .sl (a1.plus 1)) λ(x3:Sl)=>sh (v7 n x3) λx4=>sh (bG (a1.plus 1) [aE x4]) λx5=>sh (aI [.bool,.sl] a1) λ(x6:Bool×Sl)=>sh (bG a0 [.bool x6.1,aE x6.2]) λx7=>sh (aI [.bool,.sl] a0) λ(x8:Bool×Sl)=>AI ((x8.1,x8.2),true)) (λx2=>sh (aI [.bool,.sl] a0) λ(x3:Bool×Sl)=>AI ((x3.1,x3.2),x2)))
def iq (n:Nat)(a0:ByteArray)(a1 a2:Addr)(a3:ByteArray):M ((Bool×Sl)×Bool):=if decide ((↑a3.size:Int)=0) then sh (bG a1 [.bool false,aU]) λx0=>sh (aI [.bool,.sl] a1) λ(x1:Bool×Sl)=>AI ((x1.1,x1.2),false) else if decide (400<(↑a3.size:Int)) then sh (bG a1 [.bool false,aU]) λx0=>sh (aI [.bool,.sl] a1) λ(x1:Bool×Sl)=>AI ((x1.1,x1.2),false) else sh (jd a3 0) λx0=>if decide ((↑x0.toNat:Int)=48) then if decide (1<(↑a0.size:Int)) then sh (bG a1 [.bool false,aU]) λx1=>sh (aI [.bool,.sl] a1) λ(x2:Bool×Sl)=>AI ((x2.1,x2.2),false) else jJ n a1 a2 a3 else jJ n a1 a2 a3
def nS (n:Nat)(a0:ByteArray):M ((Bool×Sl)×Bool):=sh (aO none aH [.bool false,aU]) λx0=>sh (aO none aH [.bool false,aU]) λx1=>sh (bG (ak x1) [.bool false,aU]) λx2=>if decide (1<(↑a0.size:Int)) then sh (jd a0 0) λx3=>if decide ((↑x3.toNat:Int)=45) then sh (bG ((ak x1).plus 0) [.bool true]) λx4=>sh (iL a0 1 (↑a0.size:Int)) λx5=>iq n a0 (ak x0) (ak x1) x5 else iq n a0 (ak x0) (ak x1) a0 else iq n a0 (ak x0) (ak x1) a0
abbrev ZL (n:Nat):bz:=⟨37,[oe],[.agg [.bool,.sl],jz],λx=>nS n x⟩
abbrev H9:L2:=⟨[0,1,0,1,1,1,1,1,1],[(2,aK),(4,aK),(5,oe),(44,aB),(45,aB)],[],[(3,jz)],[3,6]++List.range' 45 27,0,.ret,λn x=>im n x.1 x.2.1 x.2.2.1 x.2.2.2.1 x.2.2.2.2⟩
def Un (i:Nat):Option (List (Nat×List Nat)):=cond (Nat.beq i 14) (some [(0,[]),(2,[]),(3,[]),(4,[]),(5,[]),(6,[]),(7,[]),(8,[]),(9,[]),(10,[]),(1,[]),(11,[]),(12,[])]) (none)
abbrev Re (n:Nat):List (gj (Unit⊕Bool)):=[⟨[1,1,0,0,1,1,0,0,1,0,1,1,1,1,1,1],[.ar 1,.code [1,1,1,0,0,1,0,1,1,1,1,1,1]],[(2,aK),(4,aK),(5,oe),(6,aB),(44,aB),(45,aB)],λx=>zN n x.1 x.2.1 x.2.2.1 x.2.2.2.1 x.2.2.2.2.1 x.2.2.2.2.2⟩]
abbrev abu (n:Nat):List (gj ((Bool×Sl)×Bool)):=[⟨[0,0,1,1,1,1],[.code [1,0,1,1,1,1],.code [1,1,1,1,1]],[(0,oe),(2,aK),(4,aK),(5,oe)],λx=>iq n x.1 x.2.1 x.2.2.1 x.2.2.2⟩, ⟨[0,1,1,1,1,1],[.code [1,1,1,1,1,1]],[(2,aK),(4,aK),(5,oe)],λx=>jJ n x.1 x.2.1 x.2.2⟩]
theorem Rf (n:Nat):kE TZp Tryz.f37 (H9.e n) H9.ws:=L2.ok Tryz.f37 H9 n C5 (dr:=Un) (jt:=Re) (hT:=λm _=>⟨.nil,K5 m,.nil,.nil,(.cc .nil)⟩)
theorem CO (n:Nat):aP TZp (ZL n):=bE Tryz.f37 (C5 n) (ll:=[H9.e n]) (dr:=Un) (js:=abu n) (hT:=⟨.nil,K5 n,.nil,(.cc (Rf n) .nil),(.cc (.cc .nil))⟩)
abbrev C6 (n:Nat):List bz:=ZL n::C5 n
theorem K6 (n:Nat):aJ TZp (C6 n):=.cons (CO n) (K5 n)
def oD (n:Nat)(a0:ByteArray):M Bool:=sh (nS n a0) λx0=>sh (aO none aH [.bool false,aU]) λx1=>sh (bG (ak x1) [.bool x0.1.1,aE x0.1.2]) λx2=>AI x0.2
abbrev ZM (n:Nat):bz:=⟨27,[oe],[jz],λx=>oD n x⟩
theorem BI (n:Nat):aP TZp (ZM n):=bE Tryz.f27 (C6 n) (hT:=.m1 (K6 n))
abbrev C7 (n:Nat):List bz:=ZM n::C6 n
theorem K7 (n:Nat):aJ TZp (C7 n):=.cons (BI n) (K6 n)
def pS (G:Bool->Sl->Int->Addr->M (Sl×Int))(n:Nat)(a0:Bool)(a1:Sl)(a2:Int)(a3:Addr):M (Sl×Int):=if decide (0<(↑a1.len:Int)) then sh (av a1 (i64.wrap ((↑a1.len:Int)-1)) 1) λx0=>sh (aq (.int IntKind.u8) x0) λ(x1:Int)=>if decide (x1=0) then sh (kJ a1 0 (i64.wrap ((↑a1.len:Int)-1)) gC 1) λx2=>G a0 x2 (i64.wrap (a2+1)) a3 else AI (a1,a2) else AI (a1,a2)
def jK:Nat->Bool->Sl->Int->Addr->M (Sl×Int)|0=>λ_ _ _ _=>AS|n+1=>pS (jK n) n
theorem xG (n:Nat):jK (n+1)=pS (jK n) n:=rfl
def pT (G:Bool->Sl->Int->Addr->M Sl)(n:Nat)(a0:Bool)(a1:Sl)(a2:Int)(a3:Addr):M Sl:=if decide (0<(↑a1.len:Int)) then sh (av a1 0 1) λx0=>sh (aq (.int IntKind.u8) x0) λ(x1:Int)=>if decide (x1=0) then sh (kJ a1 1 (↑a1.len:Int) gC 1) λx2=>G a0 x2 a2 a3 else AI a1 else AI a1
def jL:Nat->Bool->Sl->Int->Addr->M Sl|0=>λ_ _ _ _=>AS|n+1=>pT (jL n) n
theorem xH (n:Nat):jL (n+1)=pT (jL n) n:=rfl
def s4 (n:Nat)(a0:Bool)(a1:Sl)(a2:Int):M (Bool×Sl×Int):=sh (aO none bZ [.bool false,aU,vi 0]) λx0=>sh (jL n a0 a1 a2 (ak x0)) λx1=>sh (jK n a0 x1 a2 (ak x0)) λx2=>if decide ((↑x2.1.len:Int)=0) then sh (bG (ak x0) [.bool false,aU,vi 0]) λx3=>sh (aI [.bool,.sl,li] (ak x0)) λ(x4:Bool×Sl×Int)=>AI (x4.1,x4.2.1,x4.2.2) else sh (vc none gC [.int IntKind.u8 0] (↑x2.1.len:Int) (↑x2.1.len:Int)) λx3=>sh (wO x3 x2.1 1) λx4=>sh (bG (ak x0) [.bool a0,aE x3,vi x2.2]) λx5=>sh (aI [.bool,.sl,li] (ak x0)) λ(x6:Bool×Sl×Int)=>AI (x6.1,x6.2.1,x6.2.2)
abbrev ZN (n:Nat):bz:=⟨55,[jz,cJ,aB],[.agg [.bool,.sl,.int .i64]],λx=>s4 n x.1 x.2.1 x.2.2⟩
abbrev Ia:L1:=⟨[0,0,1],[(0,jz),(1,cJ),(2,aB),(6,aK)],[(1,cJ)],[1]++List.range' 8 11,0,λn x=>jL n x.1 x.2.1 x.2.2.1 x.2.2.2⟩
abbrev Ib:L1:=⟨[0,0,1,1],[(0,jz),(1,cJ),(2,aB),(6,aK)],[(1,cJ),(2,aB)],[1,2]++List.range' 19 19,2,λn x=>jK n x.1 x.2.1 x.2.2.1 x.2.2.2⟩
theorem Rh (n:Nat):kE TZp Tryz.f55 (Ib.e n) Ib.ws:=L1.ok Tryz.f55 Ib n C7 (hT:=λm _=>.m1 (K7 m))
theorem Ri (n:Nat):kE TZp Tryz.f55 (Ia.e n) Ia.ws:=L1.ok Tryz.f55 Ia n C7 (hT:=λm _=>.m1 (K7 m))
theorem CP (n:Nat):aP TZp (ZN n):=bE Tryz.f55 (C7 n) (ll:=[Ia.e n,Ib.e n]) (hT:=⟨.nil,K7 n,.nil,(.cc (Ri n) (.cc (Rh n) .nil)),.nil⟩)
abbrev C8 (n:Nat):List bz:=ZN n::C7 n
theorem K8 (n:Nat):aJ TZp (C8 n):=.cons (CP n) (K7 n)
def o6 (G:ByteArray->Sl->Int->Int->M Unit)(n:Nat)(a0:ByteArray)(a1:Sl)(a2 a3:Int):M Unit:=if decide (a3<a2) then sh (jd a0 a3) λx0=>sh (av a1 a3 1) λx1=>sh (bG x1 [.int IntKind.u8 (IntKind.u8.wrap ((↑x0.toNat:Int)-48))]) λx2=>G a0 a1 a2 (i64.wrap (a3+1)) else AI ()
def jb:Nat->ByteArray->Sl->Int->Int->M Unit|0=>λ_ _ _ _=>AS|n+1=>o6 (jb n) n
theorem w5 (n:Nat):jb (n+1)=o6 (jb n) n:=rfl
def rK (n:Nat)(a0:ByteArray):M Sl:=sh (vc none gC [.int IntKind.u8 0] (↑a0.size:Int) (↑a0.size:Int)) λx0=>sh (jb n a0 x0 (↑a0.size:Int) 0) λx1=>AI x0
abbrev ZO (n:Nat):bz:=⟨56,[oe],[cJ],λx=>rK n x⟩
abbrev Ic:L1:=⟨[0,1,0,1,1],[(0,oe),(3,cJ),(9,aB),(10,aB)],[],[4]++List.range' 10 11,0,λn x=>jb n x.1 x.2.1 x.2.2.1 x.2.2.2⟩
theorem Rj (n:Nat):kE TZp Tryz.f56 (Ic.e n) Ic.ws:=L1.ok Tryz.f56 Ic n C8 (hT:=λm _=>.m1 (K8 m))
theorem BJ (n:Nat):aP TZp (ZO n):=bE Tryz.f56 (C8 n) (ll:=[Ic.e n]) (hT:=⟨.nil,K8 n,.nil,(.cc (Rj n) .nil),.nil⟩)
abbrev C9 (n:Nat):List bz:=ZO n::C8 n
theorem K9 (n:Nat):aJ TZp (C9 n):=.cons (BJ n) (K8 n)
def mZ (n:Nat)(a0:Bool×Sl×Int):M Int:=sh (aO none bZ [.bool a0.1,aE a0.2.1,vi a0.2.2]) λx0=>sh (aq .sl ((ak x0).plus 1)) λ(x1:Sl)=>if decide (400<(↑x1.len:Int)) then AI 6 else sh (aq li ((ak x0).plus 2)) λ(x2:Int)=>if decide (x2 < -2000) then AI 2 else sh (aq li ((ak x0).plus 2)) λ(x3:Int)=>if decide (2000<x3) then AI 2 else AI 0
abbrev ZP (n:Nat):bz:=⟨57,[.agg [.bool,.sl,.int .i64]],[aB],λx=>mZ n x⟩
theorem xI (n:Nat):aP TZp (ZP n):=bE Tryz.f57 (C9 n) (hT:=.m1 (K9 n))
abbrev C10 (n:Nat):List bz:=ZP n::C9 n
theorem K10 (n:Nat):aJ TZp (C10 n):=.cons (xI n) (K9 n)
def nT (n:Nat)(a0:Bool×Sl×Int):M ByteArray:=sh (aO none bZ [.bool a0.1,aE a0.2.1,vi a0.2.2]) λx0=>sh (aq .bool ((ak x0).plus 0)) λ(x1:Bool)=>if x1 then AI (ofBytes [45]) else AI (ofBytes [])
abbrev Uo (n:Nat):bz:=⟨119,[.agg [.bool,.sl,.int .i64]],[oe],λx=>nT n x⟩
theorem yO (n:Nat):aP TZp (Uo n):=bE Tryz.f119 (C10 n) (hT:=.m1 (K10 n))
abbrev C11 (n:Nat):List bz:=Uo n::C10 n
theorem K11 (n:Nat):aJ TZp (C11 n):=.cons (yO n) (K10 n)
def kM (G:Sl->Sl->Int->Int->M Unit)(n:Nat)(a0 a1:Sl)(a2 a3:Int):M Unit:=if decide (a3<a2) then sh (av a1 a3 1) λx0=>sh (aq (.int IntKind.u8) x0) λ(x1:Int)=>sh (av a0 a3 1) λx2=>sh (bG x2 [.int IntKind.u8 (IntKind.u8.wrap (48+x1))]) λx3=>G a0 a1 a2 (i64.wrap (a3+1)) else AI ()
def fE:Nat->Sl->Sl->Int->Int->M Unit|0=>λ_ _ _ _=>AS|n+1=>kM (fE n) n
theorem tP (n:Nat):fE (n+1)=kM (fE n) n:=rfl
def lQ (n:Nat)(a0:Bool×Sl×Int):M ByteArray:=sh (aO none bZ [.bool a0.1,aE a0.2.1,vi a0.2.2]) λx0=>sh (aq .sl ((ak x0).plus 1)) λ(x1:Sl)=>sh (vc none gC [.int IntKind.u8 0] (↑x1.len:Int) (↑x1.len:Int)) λx2=>sh (aq .sl ((ak x0).plus 1)) λ(x3:Sl)=>sh (fE n x2 x3 (↑x3.len:Int) 0) λx4=>sh (strOf x2) λx5=>AI x5
abbrev Up (n:Nat):bz:=⟨120,[.agg [.bool,.sl,.int .i64]],[oe],λx=>lQ n x⟩
abbrev Dq:L1:=⟨[0,1,0,1,1],[(3,cJ),(11,cJ),(12,aB),(13,aB)],[],[4,5]++List.range' 13 11,0,λn x=>fE n x.1 x.2.1 x.2.2.1 x.2.2.2⟩
theorem MZ (n:Nat):kE TZp Tryz.f120 (Dq.e n) Dq.ws:=L1.ok Tryz.f120 Dq n C11 (hT:=λm _=>.m1 (K11 m))
theorem w6 (n:Nat):aP TZp (Up n):=bE Tryz.f120 (C11 n) (ll:=[Dq.e n]) (hT:=⟨.nil,K11 n,.nil,(.cc (MZ n) .nil),.nil⟩)
abbrev C12 (n:Nat):List bz:=Up n::C11 n
theorem K12 (n:Nat):aJ TZp (C12 n):=.cons (w6 n) (K11 n)
def nU (n:Nat)(a0:Bool×Sl×Int):M ByteArray:=sh (aO none bZ [.bool a0.1,aE a0.2.1,vi a0.2.2]) λx0=>sh (aq .sl ((ak x0).plus 1)) λ(x1:Sl)=>if decide ((↑x1.len:Int)=0) then AI (ofBytes [48]) else sh (aI [.bool,.sl,li] (ak x0)) λ(x2:Bool×Sl×Int)=>sh (aI [.bool,.sl,li] (ak x0)) λ(x3:Bool×Sl×Int)=>sh (kG [some (ak x0)] (nT n (x2.1,x2.2.1,x2.2.2))) λx4=>sh (lQ n (x3.1,x3.2.1,x3.2.2)) λx5=>sh (kF x4 x5) λx6=>AI x6
abbrev ZQ (n:Nat):bz:=⟨86,[.agg [.bool,.sl,.int .i64]],[oe],λx=>nU n x⟩
def abv (i:Nat):Option (List (Nat×List Nat)):=cond (Nat.beq i 3) (some [(0,[]),(2,[]),(1,[2]),(3,[]),(4,[]),(5,[])]) (none)
theorem yP (n:Nat):aP TZp (ZQ n):=bE Tryz.f86 (C12 n) (dr:=abv) (hT:=.m1 (K12 n))
abbrev C13 (n:Nat):List bz:=ZQ n::C12 n
theorem K13 (n:Nat):aJ TZp (C13 n):=.cons (yP n) (K12 n)
def nV (n:Nat)(a0:Bool×Sl×Int):M ByteArray:=sh (aO none bZ [.bool a0.1,aE a0.2.1,vi a0.2.2]) λx0=>sh (aI [.bool,.sl,li] (ak x0)) λ(x1:Bool×Sl×Int)=>sh (aq li ((ak x0).plus 2)) λ(x2:Int)=>sh (kG [some ((ak x0).plus 2)] (nU n (x1.1,x1.2.1,x1.2.2))) λx3=>sh (kF x3 (ofBytes [101])) λx4=>sh (strconv_Itoa n x2) λx5=>sh (kF x4 x5) λx6=>AI x6
abbrev ZR (n:Nat):bz:=⟨58,[.agg [.bool,.sl,.int .i64]],[oe],λx=>nV n x⟩
def abw (i:Nat):Option (List (Nat×List Nat)):=cond (Nat.beq i 1) (some [(3,[]),(0,[]),(4,[]),(1,[4]),(2,[]),(5,[]),(6,[]),(7,[])]) (none)
theorem yQ (n:Nat):aP TZp (ZR n):=bE Tryz.f58 (C13 n) (dr:=abw) (hT:=.m1 (K13 n))
abbrev C14 (n:Nat):List bz:=ZR n::C13 n
theorem K14 (n:Nat):aJ TZp (C14 n):=.cons (yQ n) (K13 n)
def oN (n:Nat)(a0:ByteArray)(a1:Addr)(a2:Int):M ((Bool×Sl×Int)×Bool):=sh (iL a0 (i64.wrap (a2+1)) (↑a0.size:Int)) λx0=>sh (strconv_Atoi n x0) λx1=>sh (kc x1.2) λx2=>if !x2 then sh (bG a1 [.bool false,aU,vi 0]) λx3=>sh (aI [.bool,.sl,li] a1) λ(x4:Bool×Sl×Int)=>AI ((x4.1,x4.2.1,x4.2.2),false) else sh (iL a0 0 a2) λx3=>sh (strings_TrimPrefix n x3 (ofBytes [45])) λx4=>sh (eS 9) λx5=>sh (jd a0 0) λx6=>sh (aO (some (x5+7)) bZ [.bool false,aU,vi 0]) λx7=>sh (kG [none] (Bm (x5+7) (rK n x4))) λx8=>sh (kG [none] (Bm (x5+7) (s4 n (decide ((↑x6.toNat:Int)=45)) x8 x1.1))) λx9=>sh (bG (ak x7) [.bool x9.1,aE x9.2.1,vi x9.2.2]) λx10=>sh (aI [.bool,.sl,li] (ak x7)) λ(x11:Bool×Sl×Int)=>sh (aI [.bool,.sl,li] (ak x7)) λ(x12:Bool×Sl×Int)=>sh (kG [some (ak x7)] (mZ n (x12.1,x12.2.1,x12.2.2))) λx13=>if decide (x13=0) then sh (aI [.bool,.sl,li] (ak x7)) λ(iK:Bool×Sl×Int)=>sh (kG [some (ak x7)] (nV n (iK.1,iK.2.1,iK.2.2))) λx15=>sh (bG a1 [.bool x11.1,aE x11.2.1,vi x11.2.2]) λpo=>sh (aI [.bool,.sl,li] a1) λ(x17:Bool×Sl×Int)=>AI ((x17.1,x17.2.1,x17.2.2),mI x15 a0) else sh (bG a1 [.bool x11.1,aE x11.2.1,vi x11.2.2]) λiK=>sh (aI [.bool,.sl,li] a1) λ(x15:Bool×Sl×Int)=>AI ((x15.1,x15.2.1,x15.2.2),false)
def nW (n:Nat)(a0:ByteArray):M ((Bool×Sl×Int)×Bool):=sh (aO none bZ [.bool false,aU,vi 0]) λx0=>sh (strings_IndexByte n a0 101) λx1=>if decide (x1<0) then sh (bG (ak x0) [.bool false,aU,vi 0]) λx2=>sh (aI [.bool,.sl,li] (ak x0)) λ(x3:Bool×Sl×Int)=>AI ((x3.1,x3.2.1,x3.2.2),false) else sh (iL a0 0 x1) λx2=>sh (oD n x2) λx3=>if !x3 then sh (bG (ak x0) [.bool false,aU,vi 0]) λx4=>sh (aI [.bool,.sl,li] (ak x0)) λ(x5:Bool×Sl×Int)=>AI ((x5.1,x5.2.1,x5.2.2),false) else if decide (6<i64.wrap ((↑a0.size:Int)-x1)) then sh (bG (ak x0) [.bool false,aU,vi 0]) λx4=>sh (aI [.bool,.sl,li] (ak x0)) λ(x5:Bool×Sl×Int)=>AI ((x5.1,x5.2.1,x5.2.2),false) else oN n a0 (ak x0) x1
abbrev ZS (n:Nat):bz:=⟨38,[oe],[.agg [.bool,.sl,.int .i64],jz],λx=>nW n x⟩
def abx (i:Nat):Option (List (Nat×List Nat)):=cond (Nat.beq i 8) (some [(0,[]),(1,[]),(2,[]),(3,[]),(5,[]),(7,[]),(4,[7]),(6,[7]),(8,[])]) (cond (Nat.beq i 9) (some [(0,[]),(1,[]),(2,[0]),(3,[]),(4,[]),(7,[]),(5,[]),(6,[0]),(8,[]),(9,[]),(10,[]),(11,[])]) (none))
abbrev aby (n:Nat):List (gj ((Bool×Sl×Int)×Bool)):=[⟨[0,1,1,1],[.code [1,1,1,1]],[(0,oe),(2,aK),(4,aB)],λx=>oN n x.1 x.2.1 x.2.2⟩]
theorem CQ (n:Nat):aP TZp (ZS n):=bE Tryz.f38 (C14 n) (dr:=abx) (js:=aby n) (hT:=⟨.nil,K14 n,.nil,.nil,(.cc .nil)⟩)
abbrev C15 (n:Nat):List bz:=ZS n::C14 n
theorem K15 (n:Nat):aJ TZp (C15 n):=.cons (CQ n) (K14 n)
def rL (n:Nat)(a0:ByteArray):M Bool:=sh (nW n a0) λx0=>sh (aO none bZ [.bool false,aU,vi 0]) λx1=>sh (bG (ak x1) [.bool x0.1.1,aE x0.1.2.1,vi x0.1.2.2]) λx2=>AI x0.2
abbrev ZT (n:Nat):bz:=⟨28,[oe],[jz],λx=>rL n x⟩
theorem BK (n:Nat):aP TZp (ZT n):=bE Tryz.f28 (C15 n) (hT:=.m1 (K15 n))
abbrev C16 (n:Nat):List bz:=ZT n::C15 n
theorem K16 (n:Nat):aJ TZp (C16 n):=.cons (BK n) (K15 n)
def EU (n:Nat):M (Nat):=sh (cY n 9221120237041090561) λx0=>AI x0
abbrev ZU (n:Nat):bz:=⟨60,[],[.one (.f64)],λ_=>EU n⟩
theorem Lo (n:Nat):aP TZp (ZU n):=bE Tryz.f60 (C16 n) (hT:=.m1 (K16 n))
abbrev C17 (n:Nat):List bz:=ZU n::C16 n
theorem K17 (n:Nat):aJ TZp (C17 n):=.cons (Lo n) (K16 n)
def xJ (n:Nat)(a0:Int):M (Nat):=if decide (0<=a0) then sh (cY n 9218868437227405312) λx0=>AI x0 else sh (cY n 18442240474082181120) λx0=>AI x0
abbrev ZV (n:Nat):bz:=⟨61,[aB],[.one (.f64)],λx=>xJ n x⟩
theorem Lq (n:Nat):aP TZp (ZV n):=bE Tryz.f61 (C17 n) (hT:=.m1 (K17 n))
abbrev C18 (n:Nat):List bz:=ZV n::C17 n
theorem K18 (n:Nat):aJ TZp (C18 n):=.cons (Lq n) (K17 n)
def pU (n:Nat)(a0 a1:ByteArray):M (ByteArray×ByteArray×Bool):=sh (iG n a0 a1) λx0=>if decide (0<=x0) then sh (iL a0 0 x0) λx1=>sh (iL a0 (i64.wrap (x0+(↑a1.size:Int))) (↑a0.size:Int)) λx2=>AI (x1,x2,true) else AI (a0,(ofBytes []),false)
abbrev ZW (n:Nat):bz:=⟨90,[oe,oe],[oe,oe,jz],λx=>pU n x.1 x.2⟩
def abz (i:Nat):Option (List (Nat×List Nat)):=cond (Nat.beq i 3) (some [(0,[]),(1,[]),(2,[]),(3,[]),(4,[]),(5,[]),(6,[]),(7,[]),(8,[]),(9,[]),(10,[]),(11,[])]) (none)
theorem xK (n:Nat):aP TZp (ZW n):=bE Tryz.f90 (C18 n) (dr:=abz) (hT:=.m1 (K18 n))
abbrev C19 (n:Nat):List bz:=ZW n::C18 n
theorem K19 (n:Nat):aJ TZp (C19 n):=.cons (xK n) (K18 n)
def strings_Cut (n:Nat)(a0 a1:ByteArray):M (ByteArray×ByteArray×Bool):=sh (pU n a0 a1) λx0=>AI (x0.1,x0.2.1,x0.2.2)
abbrev ZX (n:Nat):bz:=⟨62,[oe,oe],[oe,oe,jz],λx=>strings_Cut n x.1 x.2⟩
theorem EV (n:Nat):aP TZp (ZX n):=bE Tryz.f62 (C19 n) (hT:=.m1 (K19 n))
abbrev C20 (n:Nat):List bz:=ZX n::C19 n
theorem K20 (n:Nat):aJ TZp (C20 n):=.cons (EV n) (K19 n)
def nB (n:Nat)(a0 a1:Int):M Bool:=sh (fJ n a0) λx0=>sh (kC (decide (2≠0))) λx1=>if decide (a0.tmod 2=1) then if decide (x0<=53) then if decide (-1074<=a1) then if decide (a1<=1023) then AI (decide (i64.wrap (a1+x0)<=1024)) else AI false else AI false else AI false else AI false
abbrev ZY (n:Nat):bz:=⟨64,[.one (.int .u64),aB],[jz],λx=>nB n x.1 x.2⟩
theorem EW (n:Nat):aP TZp (ZY n):=bE Tryz.f64 (C20 n) (hT:=.m1 (K20 n))
abbrev C21 (n:Nat):List bz:=ZY n::C20 n
theorem K21 (n:Nat):aJ TZp (C21 n):=.cons (EW n) (K20 n)
def mC (n a0 a1:Nat):M (Nat):=sh (eU n a0) λx0=>sh (eU n a1) λx1=>sh (cY n (IntKind.u64.wrap (↑(BitVec.ofInt 64 (IntKind.u64.wrap (↑(BitVec.ofInt 64 x0&&&~~~BitVec.ofInt 64 9223372036854775808).toNat:Int))|||BitVec.ofInt 64 (IntKind.u64.wrap (↑(BitVec.ofInt 64 x1&&&BitVec.ofInt 64 9223372036854775808).toNat:Int))).toNat:Int))) λx2=>AI x2
abbrev ZZ (n:Nat):bz:=⟨67,[.one (.f64),.one (.f64)],[.one (.f64)],λx=>mC n x.1 x.2⟩
theorem BM (n:Nat):aP TZp (ZZ n):=bE Tryz.f67 (C21 n) (hT:=.m1 (K21 n))
abbrev C22 (n:Nat):List bz:=ZZ n::C21 n
theorem K22 (n:Nat):aJ TZp (C22 n):=.cons (BM n) (K21 n)
def xL (n a0:Nat):M (Nat):=sh (eU n a0) λx0=>sh (cY n (IntKind.u64.wrap (↑(BitVec.ofInt 64 x0&&&~~~BitVec.ofInt 64 9223372036854775808).toNat:Int))) λx1=>AI x1
abbrev Uq (n:Nat):bz:=⟨127,[.one (.f64)],[.one (.f64)],λx=>xL n x⟩
theorem Ls (n:Nat):aP TZp (Uq n):=bE Tryz.f127 (C22 n) (hT:=.m1 (K22 n))
abbrev C23 (n:Nat):List bz:=Uq n::C22 n
theorem K23 (n:Nat):aJ TZp (C23 n):=.cons (Ls n) (K22 n)
def wa (n a0:Nat)(a1:Int):M Bool:=if decide (a1=0) then sh (xL n a0) λx0=>AI (Xa x0 9218868437227405311) else if decide (a1<0) then AI (Xa (aaZ a0) 9218868437227405311) else AI (Xa a0 9218868437227405311)
abbrev Z0 (n:Nat):bz:=⟨96,[.one (.f64),aB],[jz],λx=>wa n x.1 x.2⟩
theorem Gb (n:Nat):aP TZp (Z0 n):=bE Tryz.f96 (C23 n) (hT:=.m1 (K23 n))
abbrev C24 (n:Nat):List bz:=Z0 n::C23 n
theorem K24 (n:Nat):aJ TZp (C24 n):=.cons (Gb n) (K23 n)
def EX (n a0:Nat):M Bool:=AI !FU a0 a0
abbrev Ur (n:Nat):bz:=⟨125,[.one (.f64)],[jz],λx=>EX n x⟩
theorem Gc (n:Nat):aP TZp (Ur n):=bE Tryz.f125 (C24 n) (hT:=.m1 (K24 n))
abbrev C25 (n:Nat):List bz:=Ur n::C24 n
theorem K25 (n:Nat):aJ TZp (C25 n):=.cons (Gc n) (K24 n)
def tQ (n a0:Nat):M (Nat×Int):=sh (xL n a0) λx0=>if Xk x0 4503599627370496 then sh (JV a0 4841369599423283200) λx1=>AI (x1,-52) else AI (a0,0)
abbrev Us (n:Nat):bz:=⟨126,[.one (.f64)],[.one (.f64),aB],λx=>tQ n x⟩
theorem AU (n:Nat):aP TZp (Us n):=bE Tryz.f126 (C25 n) (hT:=.m1 (K25 n))
abbrev C26 (n:Nat):List bz:=Us n::C25 n
theorem K26 (n:Nat):aJ TZp (C26 n):=.cons (AU n) (K25 n)
def rM (n:Nat)(a0 a1:Int)(a2:Nat):M (Nat):=sh (kC (decide (0<=52))) λx0=>sh (cY n (IntKind.u64.wrap (↑(BitVec.ofInt 64 (IntKind.u64.wrap (↑(BitVec.ofInt 64 a1&&&~~~BitVec.ofInt 64 9218868437227405312).toNat:Int))|||BitVec.ofInt 64 (IntKind.u64.wrap (IntKind.u64.wrap (i64.wrap (a0+1023))*2^52))).toNat:Int))) λx1=>sh (JV a2 x1) λx2=>AI x2
def zk (n a0:Nat)(a1:Int):M (Nat):=sh (tQ n a0) λx0=>sh (eU n x0.1) λx1=>sh (kC (decide (0<=52))) λx2=>if decide (i64.wrap (i64.wrap (a1+x0.2)+i64.wrap (i64.wrap (↑(BitVec.ofInt 64 (i64.wrap (Int.fdiv x1 (2^52)))&&&BitVec.ofInt 64 2047).toNat:Int)-1023)) < -1075) then sh (mC n 0 x0.1) λx3=>AI x3 else if decide (1023<i64.wrap (i64.wrap (a1+x0.2)+i64.wrap (i64.wrap (↑(BitVec.ofInt 64 (i64.wrap (Int.fdiv x1 (2^52)))&&&BitVec.ofInt 64 2047).toNat:Int)-1023))) then if Xk x0.1 0 then sh (xJ n (-1)) λx3=>AI x3 else sh (xJ n 1) λx3=>AI x3 else if decide (i64.wrap (i64.wrap (a1+x0.2)+i64.wrap (i64.wrap (↑(BitVec.ofInt 64 (i64.wrap (Int.fdiv x1 (2^52)))&&&BitVec.ofInt 64 2047).toNat:Int)-1023)) < -1022) then rM n (i64.wrap (i64.wrap (i64.wrap (a1+x0.2)+i64.wrap (i64.wrap (↑(BitVec.ofInt 64 (i64.wrap (Int.fdiv x1 (2^52)))&&&BitVec.ofInt 64 2047).toNat:Int)-1023))+53)) x1 4368491638549381120 else rM n (i64.wrap (i64.wrap (a1+x0.2)+i64.wrap (i64.wrap (↑(BitVec.ofInt 64 (i64.wrap (Int.fdiv x1 (2^52)))&&&BitVec.ofInt 64 2047).toNat:Int)-1023))) x1 4607182418800017408
def EY (n a0:Nat)(a1:Int):M (Nat):=if FU a0 0 then AI a0 else sh (wa n a0 0) λx0=>if x0 then AI a0 else sh (EX n a0) λx1=>if x1 then AI a0 else zk n a0 a1
abbrev Z1 (n:Nat):bz:=⟨94,[.one (.f64),aB],[.one (.f64)],λx=>EY n x.1 x.2⟩
abbrev abA (n:Nat):List (gj (Nat)):=[⟨[0,1,1],[.code [1,1,1]],[(0,.one (.f64)),(1,aB)],λx=>zk n x.1 x.2⟩, ⟨[0,1,1,1,1,1,1,1,1,1,1],[.code [1,1,1,1,1,1,1,1,1,1,1]],[(1,aB),(6,.one (.int .u64)),(7,.one (.f64))],λx=>rM n x.1 x.2.1 x.2.2⟩]
theorem Gd (n:Nat):aP TZp (Z1 n):=bE Tryz.f94 (C26 n) (js:=abA n) (hT:=⟨.nil,K26 n,.nil,.nil,(.cc (.cc .nil))⟩)
abbrev C27 (n:Nat):List bz:=Z1 n::C26 n
theorem K27 (n:Nat):aJ TZp (C27 n):=.cons (Gd n) (K26 n)
def zO (n a0:Nat)(a1:Int):M (Nat):=sh (EY n a0 a1) λx0=>AI x0
abbrev Z2 (n:Nat):bz:=⟨65,[.one (.f64),aB],[.one (.f64)],λx=>zO n x.1 x.2⟩
theorem Ge (n:Nat):aP TZp (Z2 n):=bE Tryz.f65 (C27 n) (hT:=.m1 (K27 n))
abbrev C28 (n:Nat):List bz:=Z2 n::C27 n
theorem K28 (n:Nat):aJ TZp (C28 n):=.cons (Ge n) (K27 n)
def wb (n a0:Nat):M Bool:=sh (eU n a0) λx0=>AI (decide (i64.wrap x0<0))
abbrev Z3 (n:Nat):bz:=⟨95,[.one (.f64)],[jz],λx=>wb n x⟩
theorem CR (n:Nat):aP TZp (Z3 n):=bE Tryz.f95 (C28 n) (hT:=.m1 (K28 n))
abbrev C29 (n:Nat):List bz:=Z3 n::C28 n
theorem K29 (n:Nat):aJ TZp (C29 n):=.cons (CR n) (K28 n)
def oO (n:Nat)(a0 a1:Int):M (Int×Int):=sh (cU n a0) λx0=>sh (kC (decide (0<=x0))) λx1=>AI (a0.fdiv (2^min (Int.toNat x0) 64),i64.wrap (i64.wrap (a1-1075)+x0))
def wc (n a0:Nat):M (Int×Int):=sh (xL n a0) λx0=>sh (eU n x0) λx1=>sh (kC (decide (0<=52))) λx2=>if decide (i64.wrap (Int.fdiv x1 (2^52))=0) then oO n (IntKind.u64.wrap (↑(BitVec.ofInt 64 x1&&&BitVec.ofInt 64 4503599627370495).toNat:Int)) 1 else oO n (IntKind.u64.wrap (↑(BitVec.ofInt 64 (IntKind.u64.wrap (↑(BitVec.ofInt 64 x1&&&BitVec.ofInt 64 4503599627370495).toNat:Int))|||BitVec.ofInt 64 4503599627370496).toNat:Int)) (i64.wrap (Int.fdiv x1 (2^52)))
abbrev Z4 (n:Nat):bz:=⟨97,[.one (.f64)],[.one (.int .u64),aB],λx=>wc n x⟩
abbrev abB (n:Nat):List (gj (Int×Int)):=[⟨[0,1,1,1,1],[.code [1,1,1,1,1]],[(5,.one (.int .u64)),(6,aB)],λx=>oO n x.1 x.2⟩]
theorem CS (n:Nat):aP TZp (Z4 n):=bE Tryz.f97 (C29 n) (js:=abB n) (hT:=⟨.nil,K29 n,.nil,.nil,(.cc .nil)⟩)
abbrev C30 (n:Nat):List bz:=Z4 n::C29 n
theorem K30 (n:Nat):aJ TZp (C30 n):=.cons (CS n) (K29 n)
def o7 (n:Nat)(a0 a1:Int):M ByteArray:=sh (fS n a0 a1) λx0=>AI x0
abbrev Z5 (n:Nat):bz:=⟨98,[.one (.int .u64),aB],[oe],λx=>o7 n x.1 x.2⟩
theorem w7 (n:Nat):aP TZp (Z5 n):=bE Tryz.f98 (C30 n) (hT:=.m1 (K30 n))
abbrev C31 (n:Nat):List bz:=Z5 n::C30 n
theorem K31 (n:Nat):aJ TZp (C31 n):=.cons (w7 n) (K30 n)
def pV (n a0:Nat)(a1:ByteArray):M ByteArray:=if !FU a0 a0 then AI (ofBytes [110,97,110]) else sh (wa n a0 0) λx0=>if x0 then sh (kF a1 (ofBytes [105,110,102])) λx1=>AI x1 else if FU a0 0 then sh (kF a1 (ofBytes [48,112,48])) λx1=>AI x1 else sh (wc n a0) λx1=>sh (o7 n x1.1 10) λx2=>sh (kF a1 x2) λx3=>sh (kF x3 (ofBytes [112])) λx4=>sh (strconv_Itoa n x1.2) λx5=>sh (kF x4 x5) λx6=>AI x6
def xM (n a0:Nat):M ByteArray:=sh (wb n a0) λx0=>if x0 then pV n a0 (ofBytes [45]) else pV n a0 (ofBytes [])
abbrev Z6 (n:Nat):bz:=⟨66,[.one (.f64)],[oe],λx=>xM n x⟩
abbrev abC (n:Nat):List (gj ByteArray):=[⟨[0,0,0,1,1,1],[.code [1,0,0,1,1,1],.ar 0,.code [1,1,1,1]],[(0,.one (.f64)),(3,oe)],λx=>pV n x.1 x.2⟩]
theorem EZ (n:Nat):aP TZp (Z6 n):=bE Tryz.f66 (C31 n) (js:=abC n) (hT:=⟨.nil,K31 n,.nil,.nil,(.cc .nil)⟩)
abbrev C32 (n:Nat):List bz:=Z6 n::C31 n
theorem K32 (n:Nat):aJ TZp (C32 n):=.cons (EZ n) (K31 n)
def iw (n:Nat)(a0:ByteArray)(a1:Bool)(a2 a3:Int):M (Nat×Bool):=sh (zO n (Tf a2) a3) λx0=>sh (xM n x0) λx1=>if !mI x1 a0 then AI (0,false) else if a1 then sh (mC n x0 13830554455654793216) λx2=>AI (x2,true) else AI (x0,true)
def lR (n:Nat)(a0:ByteArray):M (Nat×Bool):=sh (strings_CutPrefix n a0 (ofBytes [45])) λx0=>if mI a0 (ofBytes [110,97,110]) then sh (EU n) λx1=>AI (x1,true) else if mI x0.1 (ofBytes [105,110,102]) then sh (xJ n 1) λx1=>if x0.2 then sh (mC n x1 13830554455654793216) λx2=>AI (x2,true) else AI (x1,true) else if mI x0.1 (ofBytes [48,112,48]) then if x0.2 then sh (mC n 0 13830554455654793216) λx1=>AI (x1,true) else AI (0,true) else sh (strings_Cut n x0.1 (ofBytes [112])) λx1=>sh (ft n x1.1 10 64) λx2=>sh (strconv_Atoi n x1.2.1) λx3=>if !x1.2.2 then AI (0,false) else sh (kc x2.2) λx4=>if !x4 then AI (0,false) else sh (kc x3.2) λx5=>if !x5 then AI (0,false) else sh (nB n x2.1 x3.1) λx6=>if !x6 then AI (0,false) else iw n x0.1 x0.2 x2.1 x3.1
abbrev Z7 (n:Nat):bz:=⟨39,[oe],[.one (.f64),jz],λx=>lR n x⟩
abbrev abD (n:Nat):List (gj (Nat×Bool)):=[⟨[0,1,1,1,1,1,1,1,1,1,1,0,0,1,1,1],[.code [1,1,1,1,1,1,1,1,1,1,1,0,0,1,1,1],.ar 0,.code [1,1,1,1]],[(4,oe),(5,jz),(10,.one (.int .u64)),(12,aB)],λx=>iw n x.1 x.2.1 x.2.2.1 x.2.2.2⟩]
theorem CT (n:Nat):aP TZp (Z7 n):=bE Tryz.f39 (C32 n) (js:=abD n) (hT:=⟨.nil,K32 n,.nil,.nil,(.cc .nil)⟩)
abbrev C33 (n:Nat):List bz:=Z7 n::C32 n
theorem K33 (n:Nat):aJ TZp (C33 n):=.cons (CT n) (K32 n)
def pW (n:Nat)(a0:ByteArray):M Bool:=sh (lR n a0) λx0=>AI x0.2
abbrev Z8 (n:Nat):bz:=⟨29,[oe],[jz],λx=>pW n x⟩
theorem CU (n:Nat):aP TZp (Z8 n):=bE Tryz.f29 (C33 n) (hT:=.m1 (K33 n))
abbrev C34 (n:Nat):List bz:=Z8 n::C33 n
theorem K34 (n:Nat):aJ TZp (C34 n):=.cons (CU n) (K33 n)
def lS (G:Addr->Addr->Int->Int->Int->M (Int⊕(Int×Bool)))(n:Nat)(a0 a1:Addr)(a2 a3 a4:Int):M (Int⊕(Int×Bool)):=sh (aq .str a1) λ(x0:ByteArray)=>sh (aq li a0) λ(x1:Int)=>sh (jd x0 x1) λx2=>sh (aq li a0) λ(x3:Int)=>sh (bG a0 [vi (i64.wrap (x3+1))]) λx4=>G a0 a1 (i64.wrap (i64.wrap (10*a2)+i64.wrap (IntKind.u8.wrap ((↑x2.toNat:Int)-48)))) a3 (i64.wrap (a4+1))
def iH (G:Addr->Addr->Int->Int->Int->M (Int⊕(Int×Bool)))(n:Nat)(a0 a1:Addr)(a2 a3 a4:Int):M (Int⊕(Int×Bool)):=if decide (a4<a3) then sh (aq li a0) λ(x0:Int)=>sh (aq .str a1) λ(x1:ByteArray)=>if decide ((↑(ByteArray.size x1):Int)<=x0) then AI (Sum.inr (0,false)) else sh (aq .str a1) λ(x2:ByteArray)=>sh (aq li a0) λ(x3:Int)=>sh (jd x2 x3) λx4=>if decide ((↑x4.toNat:Int)<48) then AI (Sum.inr (0,false)) else sh (aq .str a1) λ(x5:ByteArray)=>sh (aq li a0) λ(x6:Int)=>sh (jd x5 x6) λx7=>if decide (57<(↑x7.toNat:Int)) then AI (Sum.inr (0,false)) else lS G n a0 a1 a2 a3 a4 else AI (Sum.inl a2)
def gp:Nat->Addr->Addr->Int->Int->Int->M (Int⊕(Int×Bool))|0=>λ_ _ _ _ _=>AS|n+1=>iH (gp n) n
def xN (n:Nat):=lS (gp n) n
def kO (n:Nat)(a0:Int)(a1 a2:Addr):M (Int×Bool):=sh (gp n a1 a2 0 a0 0) (cw (λx0=>AI (x0,true)) (λx0=>AI (x0.1,x0.2)))
abbrev Z9 (n:Nat):bz:=⟨69,[aB,aK,aK],[aB,jz],λx=>kO n x.1 x.2.1 x.2.2⟩
abbrev Ie:L2:=⟨[0,1,0,1,1],[(1,aK),(2,aK),(6,aB),(7,aB),(8,aB)],[(6,aB)],[(4,aB),(5,jz)],[4,5,6]++List.range' 8 29,0,.ret,λn x=>gp n x.1 x.2.1 x.2.2.1 x.2.2.2.1 x.2.2.2.2⟩
abbrev Rk (n:Nat):List (gj (Int⊕(Int×Bool))):=[⟨[0,1,0,0,1,1,0,0,1,0,1,1],[.code [1,1,0,0,1,1,0,0,1,0,1,1],.ar 1,.code [1,1,1,0,0,1,0,1,1]],[(1,aK),(2,aK),(6,aB),(7,aB),(8,aB)],λx=>xN n x.1 x.2.1 x.2.2.1 x.2.2.2.1 x.2.2.2.2⟩]
theorem Rl (n:Nat):kE TZp Tryz.f69 (Ie.e n) Ie.ws:=L2.ok Tryz.f69 Ie n C34 (jt:=Rk) (hT:=λm _=>⟨.nil,K34 m,.nil,.nil,(.cc .nil)⟩)
theorem uF (n:Nat):aP TZp (Z9 n):=bE Tryz.f69 (C34 n) (ll:=[Ie.e n]) (hT:=⟨.nil,K34 n,.nil,(.cc (Rl n) .nil),.nil⟩)
abbrev C35 (n:Nat):List bz:=Z9 n::C34 n
theorem K35 (n:Nat):aJ TZp (C35 n):=.cons (uF n) (K34 n)
def gP (n:Nat)(x:Value)(a0:Int):M (Int×Bool):=if qw nP x then sh (oX [aK,aK] x) λ(c:Addr×Addr)=>kO n a0 c.1 c.2 else AS
def dL (G:Sl->Int->Int->Addr->Addr->Addr->Int->Int->M (Unit⊕Bool))(n:Nat)(a0:Sl)(a1 a2:Int)(a3 a4 a5:Addr)(a6 a7 a8 a9:Int):M (Unit⊕Bool):=sh (aq .raw a5) λ(x0:Value)=>sh (gP n x0 a7) λx1=>if !x1.2 then AI (Sum.inr false) else sh (av a0 a6 1) λx2=>sh (bG x2 [vi x1.1]) λx3=>G a0 a1 a2 a3 a4 a5 a8 (i64.wrap (a9+1))
def iI (G:Sl->Int->Int->Addr->Addr->Addr->Int->Int->M (Unit⊕Bool))(n:Nat)(a0:Sl)(a1 a2:Int)(a3 a4 a5:Addr)(a6 a7:Int):M (Unit⊕Bool):=if decide (a7<a6) then if decide (0<a7) then sh (aq li a3) λ(x0:Int)=>sh (aq .str a4) λ(x1:ByteArray)=>if decide ((↑(ByteArray.size x1):Int)<=x0) then AI (Sum.inr false) else sh (aq .str a4) λ(x2:ByteArray)=>sh (aq li a3) λ(x3:Int)=>sh (jd x2 x3) λx4=>if !decide ((↑x4.toNat:Int)=a2) then AI (Sum.inr false) else sh (aq li a3) λ(x5:Int)=>sh (bG a3 [vi (i64.wrap (x5+1))]) λx6=>if decide (a7=0) then dL G n a0 a1 a2 a3 a4 a5 a7 a1 a6 a7 else dL G n a0 a1 a2 a3 a4 a5 a7 2 a6 a7 else if decide (a7=0) then dL G n a0 a1 a2 a3 a4 a5 a7 a1 a6 a7 else dL G n a0 a1 a2 a3 a4 a5 a7 2 a6 a7 else AI (Sum.inl ())
def fu:Nat->Sl->Int->Int->Addr->Addr->Addr->Int->Int->M (Unit⊕Bool)|0=>λ_ _ _ _ _ _ _ _=>AS|n+1=>iI (fu n) n
def xO (n:Nat):=dL (fu n) n
def eI (n:Nat)(a0:Sl)(a1 a2:Int)(a3 a4 a5:Addr):M Bool:=sh (fu n a0 a1 a2 a3 a4 a5 (↑a0.len:Int) 0) (cw (λx0=>AI true) (λx0=>AI x0))
abbrev aaa (n:Nat):bz:=⟨70,[cJ,aB,.one (.int .u8),aK,aK,aK],[jz],λx=>eI n x.1 x.2.1 x.2.2.1 x.2.2.2.1 x.2.2.2.2.1 x.2.2.2.2.2⟩
abbrev Ig:L2:=⟨[0,1,0,1],[(0,cJ),(1,aB),(2,.one (.int .u8)),(3,aK),(4,aK),(5,aK),(15,aB),(16,aB)],[],[(9,jz)],List.range' 9 5++List.range' 16 34,0,.ret,λn x=>fu n x.1 x.2.1 x.2.2.1 x.2.2.2.1 x.2.2.2.2.1 x.2.2.2.2.2.1 x.2.2.2.2.2.2.1 x.2.2.2.2.2.2.2⟩
abbrev M0 (n:Nat):List jx:=[⟨38,[aB],[aB,jz],λx a=>gP n x a⟩]
abbrev Rn (n:Nat):List (gj (Unit⊕Bool)):=[⟨[0,1,1,1,1,0,0,1,1,0,0,1,0,1],[.code [1,1,1,1,1,0,0,1,1,0,0,1,0,1],.ar 1,.code [1,1,1,0,0,1,0,1]],[(0,cJ),(1,aB),(2,.one (.int .u8)),(3,aK),(4,aK),(5,aK),(10,aB),(11,aB),(15,aB),(16,aB)],λx=>xO n x.1 x.2.1 x.2.2.1 x.2.2.2.1 x.2.2.2.2.1 x.2.2.2.2.2.1 x.2.2.2.2.2.2.1 x.2.2.2.2.2.2.2.1 x.2.2.2.2.2.2.2.2.1 x.2.2.2.2.2.2.2.2.2⟩]
theorem Ut (n:Nat):oY TZp (M0 n):=.cons (dq (l:=[⟨69,[aK,aK],λa c=>kO n a c.1 c.2⟩]) (.cons (λa c=>aT (by kernel_rfl) ((uF n) (a,c.1,c.2))) .nil) (λx a=>by kernel_rfl)) .nil
theorem Ro (n:Nat):kE TZp Tryz.f70 (Ig.e n) Ig.ws:=L2.ok Tryz.f70 Ig n C35 (dt:=M0) (jt:=Rn) (hT:=λm _=>⟨.nil,K35 m,(Ut m),.nil,(.cc .nil)⟩)
theorem na (n:Nat):aP TZp (aaa n):=bE Tryz.f70 (C35 n) (dl:=M0 n) (ll:=[Ig.e n]) (hT:=⟨.nil,K35 n,(Ut n),(.cc (Ro n) .nil),.nil⟩)
abbrev C36 (n:Nat):List bz:=aaa n::C35 n
theorem K36 (n:Nat):aJ TZp (C36 n):=.cons (na n) (K35 n)
def qS (n:Nat)(x:Value)(a0:Sl)(a1 a2:Int):M Bool:=if qw dB x then sh (oX [aK,aK,aK] x) λ(c:Addr×Addr×Addr)=>eI n a0 a1 a2 c.1 c.2.1 c.2.2 else AS
def qT (n:Nat)(x:Value)(a0:Sl)(a1 a2:Int):M Bool:=if qw dB x then sh (oX [aK,aK,aK] x) λ(c:Addr×Addr×Addr)=>eI n a0 a1 a2 c.1 c.2.1 c.2.2 else AS
def jZ (n:Nat)(x:Value)(a0:Sl)(a1 a2:Int):M Bool:=if qw dB x then sh (oX [aK,aK,aK] x) λ(c:Addr×Addr×Addr)=>eI n a0 a1 a2 c.1 c.2.1 c.2.2 else AS
def j4 (G:Addr->Addr->Addr->Addr->Value->Int->M Unit)(n:Nat)(a0 a1 a2 a3:Addr)(a4:Value)(a5:Int):M Unit:=if decide (a5<9) then sh (aq li (a2.plus 9)) λ(x0:Int)=>sh (bG (a2.plus 9) [vi (i64.wrap (x0*10))]) λx1=>G a0 a1 a2 a3 a4 (i64.wrap (a5+1)) else AI ()
def jM:Nat->Addr->Addr->Addr->Addr->Value->Int->M Unit|0=>λ_ _ _ _ _ _=>AS|n+1=>j4 (jM n) n
def nC (G:Addr->Addr->Addr->Addr->Value->Int->M Int)(n:Nat)(a0 a1 a2 a3:Addr)(a4:Value)(a5:Int):M Int:=sh (aq li (a2.plus 9)) λ(x0:Int)=>sh (aq .str a0) λ(x1:ByteArray)=>sh (aq li a3) λ(x2:Int)=>sh (jd x1 x2) λx3=>sh (bG (a2.plus 9) [vi (i64.wrap (i64.wrap (10*x0)+i64.wrap (IntKind.u8.wrap ((↑x3.toNat:Int)-48))))]) λx4=>sh (aq li a3) λ(x5:Int)=>sh (bG a3 [vi (i64.wrap (x5+1))]) λx6=>G a0 a1 a2 a3 a4 (i64.wrap (a5+1))
def j5 (G:Addr->Addr->Addr->Addr->Value->Int->M Int)(n:Nat)(a0 a1 a2 a3:Addr)(a4:Value)(a5:Int):M Int:=if decide (a5<9) then sh (aq li a3) λ(x0:Int)=>sh (aq .str a0) λ(x1:ByteArray)=>if decide (x0<(↑(ByteArray.size x1):Int)) then sh (aq .str a0) λ(x2:ByteArray)=>sh (aq li a3) λ(x3:Int)=>sh (jd x2 x3) λx4=>if decide (48<=(↑x4.toNat:Int)) then sh (aq .str a0) λ(x5:ByteArray)=>sh (aq li a3) λ(x6:Int)=>sh (jd x5 x6) λx7=>if decide ((↑x7.toNat:Int)<=57) then nC G n a0 a1 a2 a3 a4 a5 else AI a5 else AI a5 else AI a5 else AI a5
def iz:Nat->Addr->Addr->Addr->Addr->Value->Int->M Int|0=>λ_ _ _ _ _ _=>AS|n+1=>j5 (iz n) n
def zP (n:Nat):=nC (iz n) n
def oP (n:Nat)(a0 a1 a2 a3:Addr)(a4:Value):M ((J11)×Bool):=sh (aq .str a0) λ(x0:ByteArray)=>sh (aq li a3) λ(x1:Int)=>sh (jd x0 x1) λx2=>sh (bG (a2.plus 10) [.int IntKind.u8 (↑x2.toNat:Int)]) λx3=>sh (aq li a3) λ(x4:Int)=>sh (bG a3 [vi (i64.wrap (x4+1))]) λx5=>sh (aq (.int IntKind.u8) (a2.plus 10)) λ(x6:Int)=>if decide (x6=90) then sh (aI [li,li,li,li,li,li,li,li,li,li,.int IntKind.u8] a2) λ(x7:J11)=>sh (aq li a3) λ(x8:Int)=>sh (aq .str a0) λ(x9:ByteArray)=>sh (kG [some a3,some a0] (bG a1 [vi x7.1,vi x7.2.1,vi x7.2.2.1,vi x7.2.2.2.1,vi x7.2.2.2.2.1,vi x7.2.2.2.2.2.1,vi x7.2.2.2.2.2.2.1,vi x7.2.2.2.2.2.2.2.1,vi x7.2.2.2.2.2.2.2.2.1,vi x7.2.2.2.2.2.2.2.2.2.1,.int IntKind.u8 x7.2.2.2.2.2.2.2.2.2.2])) λx10=>sh (aI [li,li,li,li,li,li,li,li,li,li,.int IntKind.u8] a1) λ(x11:J11)=>AI ((x11.1,x11.2.1,x11.2.2.1,x11.2.2.2.1,x11.2.2.2.2.1,x11.2.2.2.2.2.1,x11.2.2.2.2.2.2.1,x11.2.2.2.2.2.2.2.1,x11.2.2.2.2.2.2.2.2.1,x11.2.2.2.2.2.2.2.2.2.1,x11.2.2.2.2.2.2.2.2.2.2),decide (x8=(↑(ByteArray.size x9):Int))) else sh (aq (.int IntKind.u8) (a2.plus 10)) λ(x7:Int)=>if !decide (x7=43) then sh (aq (.int IntKind.u8) (a2.plus 10)) λ(x8:Int)=>if !decide (x8=45) then sh (aI [li,li,li,li,li,li,li,li,li,li,.int IntKind.u8] a2) λ(x9:J11)=>sh (bG a1 [vi x9.1,vi x9.2.1,vi x9.2.2.1,vi x9.2.2.2.1,vi x9.2.2.2.2.1,vi x9.2.2.2.2.2.1,vi x9.2.2.2.2.2.2.1,vi x9.2.2.2.2.2.2.2.1,vi x9.2.2.2.2.2.2.2.2.1,vi x9.2.2.2.2.2.2.2.2.2.1,.int IntKind.u8 x9.2.2.2.2.2.2.2.2.2.2]) λx10=>sh (aI [li,li,li,li,li,li,li,li,li,li,.int IntKind.u8] a1) λ(x11:J11)=>AI ((x11.1,x11.2.1,x11.2.2.1,x11.2.2.2.1,x11.2.2.2.2.1,x11.2.2.2.2.2.1,x11.2.2.2.2.2.2.1,x11.2.2.2.2.2.2.2.1,x11.2.2.2.2.2.2.2.2.1,x11.2.2.2.2.2.2.2.2.2.1,x11.2.2.2.2.2.2.2.2.2.2),false) else sh (mH (a2.plus 1) 8 6 8 1) λx9=>sh (jZ n a4 x9 2 58) λx10=>if !x10 then sh (aI [li,li,li,li,li,li,li,li,li,li,.int IntKind.u8] a2) λ(x11:J11)=>sh (bG a1 [vi x11.1,vi x11.2.1,vi x11.2.2.1,vi x11.2.2.2.1,vi x11.2.2.2.2.1,vi x11.2.2.2.2.2.1,vi x11.2.2.2.2.2.2.1,vi x11.2.2.2.2.2.2.2.1,vi x11.2.2.2.2.2.2.2.2.1,vi x11.2.2.2.2.2.2.2.2.2.1,.int IntKind.u8 x11.2.2.2.2.2.2.2.2.2.2]) λx12=>sh (aI [li,li,li,li,li,li,li,li,li,li,.int IntKind.u8] a1) λ(x13:J11)=>AI ((x13.1,x13.2.1,x13.2.2.1,x13.2.2.2.1,x13.2.2.2.2.1,x13.2.2.2.2.2.1,x13.2.2.2.2.2.2.1,x13.2.2.2.2.2.2.2.1,x13.2.2.2.2.2.2.2.2.1,x13.2.2.2.2.2.2.2.2.2.1,x13.2.2.2.2.2.2.2.2.2.2),false) else sh (aI [li,li,li,li,li,li,li,li,li,li,.int IntKind.u8] a2) λ(x11:J11)=>sh (aq li a3) λ(x12:Int)=>sh (aq .str a0) λ(x13:ByteArray)=>sh (kG [some a3,some a0] (bG a1 [vi x11.1,vi x11.2.1,vi x11.2.2.1,vi x11.2.2.2.1,vi x11.2.2.2.2.1,vi x11.2.2.2.2.2.1,vi x11.2.2.2.2.2.2.1,vi x11.2.2.2.2.2.2.2.1,vi x11.2.2.2.2.2.2.2.2.1,vi x11.2.2.2.2.2.2.2.2.2.1,.int IntKind.u8 x11.2.2.2.2.2.2.2.2.2.2])) λiK=>sh (aI [li,li,li,li,li,li,li,li,li,li,.int IntKind.u8] a1) λ(x15:J11)=>AI ((x15.1,x15.2.1,x15.2.2.1,x15.2.2.2.1,x15.2.2.2.2.1,x15.2.2.2.2.2.1,x15.2.2.2.2.2.2.1,x15.2.2.2.2.2.2.2.1,x15.2.2.2.2.2.2.2.2.1,x15.2.2.2.2.2.2.2.2.2.1,x15.2.2.2.2.2.2.2.2.2.2),decide (x12=(↑(ByteArray.size x13):Int))) else sh (mH (a2.plus 1) 8 6 8 1) λx8=>sh (jZ n a4 x8 2 58) λx9=>if !x9 then sh (aI [li,li,li,li,li,li,li,li,li,li,.int IntKind.u8] a2) λ(x10:J11)=>sh (bG a1 [vi x10.1,vi x10.2.1,vi x10.2.2.1,vi x10.2.2.2.1,vi x10.2.2.2.2.1,vi x10.2.2.2.2.2.1,vi x10.2.2.2.2.2.2.1,vi x10.2.2.2.2.2.2.2.1,vi x10.2.2.2.2.2.2.2.2.1,vi x10.2.2.2.2.2.2.2.2.2.1,.int IntKind.u8 x10.2.2.2.2.2.2.2.2.2.2]) λx11=>sh (aI [li,li,li,li,li,li,li,li,li,li,.int IntKind.u8] a1) λ(x12:J11)=>AI ((x12.1,x12.2.1,x12.2.2.1,x12.2.2.2.1,x12.2.2.2.2.1,x12.2.2.2.2.2.1,x12.2.2.2.2.2.2.1,x12.2.2.2.2.2.2.2.1,x12.2.2.2.2.2.2.2.2.1,x12.2.2.2.2.2.2.2.2.2.1,x12.2.2.2.2.2.2.2.2.2.2),false) else sh (aI [li,li,li,li,li,li,li,li,li,li,.int IntKind.u8] a2) λ(x10:J11)=>sh (aq li a3) λ(x11:Int)=>sh (aq .str a0) λ(x12:ByteArray)=>sh (kG [some a3,some a0] (bG a1 [vi x10.1,vi x10.2.1,vi x10.2.2.1,vi x10.2.2.2.1,vi x10.2.2.2.2.1,vi x10.2.2.2.2.2.1,vi x10.2.2.2.2.2.2.1,vi x10.2.2.2.2.2.2.2.1,vi x10.2.2.2.2.2.2.2.2.1,vi x10.2.2.2.2.2.2.2.2.2.1,.int IntKind.u8 x10.2.2.2.2.2.2.2.2.2.2])) λx13=>sh (aI [li,li,li,li,li,li,li,li,li,li,.int IntKind.u8] a1) λ(iK:J11)=>AI ((iK.1,iK.2.1,iK.2.2.1,iK.2.2.2.1,iK.2.2.2.2.1,iK.2.2.2.2.2.1,iK.2.2.2.2.2.2.1,iK.2.2.2.2.2.2.2.1,iK.2.2.2.2.2.2.2.2.1,iK.2.2.2.2.2.2.2.2.2.1,iK.2.2.2.2.2.2.2.2.2.2),decide (x11=(↑(ByteArray.size x12):Int)))
def jN (n:Nat)(a0 a1 a2 a3:Addr)(a4:Value):M ((J11)×Bool):=sh (aq li a3) λ(x0:Int)=>sh (aq .str a0) λ(x1:ByteArray)=>if decide (x0<(↑(ByteArray.size x1):Int)) then sh (aq li (a2.plus 0)) λ(x2:Int)=>if decide (x2=3) then oP n a0 a1 a2 a3 a4 else sh (aI [li,li,li,li,li,li,li,li,li,li,.int IntKind.u8] a2) λ(x3:J11)=>sh (aq li a3) λ(x4:Int)=>sh (aq .str a0) λ(x5:ByteArray)=>sh (kG [some a3,some a0] (bG a1 [vi x3.1,vi x3.2.1,vi x3.2.2.1,vi x3.2.2.2.1,vi x3.2.2.2.2.1,vi x3.2.2.2.2.2.1,vi x3.2.2.2.2.2.2.1,vi x3.2.2.2.2.2.2.2.1,vi x3.2.2.2.2.2.2.2.2.1,vi x3.2.2.2.2.2.2.2.2.2.1,.int IntKind.u8 x3.2.2.2.2.2.2.2.2.2.2])) λx6=>sh (aI [li,li,li,li,li,li,li,li,li,li,.int IntKind.u8] a1) λ(x7:J11)=>AI ((x7.1,x7.2.1,x7.2.2.1,x7.2.2.2.1,x7.2.2.2.2.1,x7.2.2.2.2.2.1,x7.2.2.2.2.2.2.1,x7.2.2.2.2.2.2.2.1,x7.2.2.2.2.2.2.2.2.1,x7.2.2.2.2.2.2.2.2.2.1,x7.2.2.2.2.2.2.2.2.2.2),decide (x4=(↑(ByteArray.size x5):Int))) else sh (aI [li,li,li,li,li,li,li,li,li,li,.int IntKind.u8] a2) λ(x2:J11)=>sh (aq li a3) λ(x3:Int)=>sh (aq .str a0) λ(x4:ByteArray)=>sh (kG [some a3,some a0] (bG a1 [vi x2.1,vi x2.2.1,vi x2.2.2.1,vi x2.2.2.2.1,vi x2.2.2.2.2.1,vi x2.2.2.2.2.2.1,vi x2.2.2.2.2.2.2.1,vi x2.2.2.2.2.2.2.2.1,vi x2.2.2.2.2.2.2.2.2.1,vi x2.2.2.2.2.2.2.2.2.2.1,.int IntKind.u8 x2.2.2.2.2.2.2.2.2.2.2])) λx5=>sh (aI [li,li,li,li,li,li,li,li,li,li,.int IntKind.u8] a1) λ(x6:J11)=>AI ((x6.1,x6.2.1,x6.2.2.1,x6.2.2.2.1,x6.2.2.2.2.1,x6.2.2.2.2.2.1,x6.2.2.2.2.2.2.1,x6.2.2.2.2.2.2.2.1,x6.2.2.2.2.2.2.2.2.1,x6.2.2.2.2.2.2.2.2.2.1,x6.2.2.2.2.2.2.2.2.2.2),decide (x3=(↑(ByteArray.size x4):Int)))
def oQ (n:Nat)(a0 a1 a2 a3:Addr)(a4:Value):M ((J11)×Bool):=sh (aq li a3) λ(x0:Int)=>sh (bG a3 [vi (i64.wrap (x0+1))]) λx1=>sh (iz n a0 a1 a2 a3 a4 0) λx2=>if decide (x2=0) then sh (aI [li,li,li,li,li,li,li,li,li,li,.int IntKind.u8] a2) λ(x3:J11)=>sh (bG a1 [vi x3.1,vi x3.2.1,vi x3.2.2.1,vi x3.2.2.2.1,vi x3.2.2.2.2.1,vi x3.2.2.2.2.2.1,vi x3.2.2.2.2.2.2.1,vi x3.2.2.2.2.2.2.2.1,vi x3.2.2.2.2.2.2.2.2.1,vi x3.2.2.2.2.2.2.2.2.2.1,.int IntKind.u8 x3.2.2.2.2.2.2.2.2.2.2]) λx4=>sh (aI [li,li,li,li,li,li,li,li,li,li,.int IntKind.u8] a1) λ(x5:J11)=>AI ((x5.1,x5.2.1,x5.2.2.1,x5.2.2.2.1,x5.2.2.2.2.1,x5.2.2.2.2.2.1,x5.2.2.2.2.2.2.1,x5.2.2.2.2.2.2.2.1,x5.2.2.2.2.2.2.2.2.1,x5.2.2.2.2.2.2.2.2.2.1,x5.2.2.2.2.2.2.2.2.2.2),false) else sh (jM n a0 a1 a2 a3 a4 x2) λx3=>jN n a0 a1 a2 a3 a4
def fK (n:Nat)(a0 a1 a2 a3:Addr)(a4:Value):M ((J11)×Bool):=sh (mH (a2.plus 1) 8 3 6 1) λx0=>sh (qT n a4 x0 2 58) λx1=>if !x1 then sh (aI [li,li,li,li,li,li,li,li,li,li,.int IntKind.u8] a2) λ(x2:J11)=>sh (bG a1 [vi x2.1,vi x2.2.1,vi x2.2.2.1,vi x2.2.2.2.1,vi x2.2.2.2.2.1,vi x2.2.2.2.2.2.1,vi x2.2.2.2.2.2.2.1,vi x2.2.2.2.2.2.2.2.1,vi x2.2.2.2.2.2.2.2.2.1,vi x2.2.2.2.2.2.2.2.2.2.1,.int IntKind.u8 x2.2.2.2.2.2.2.2.2.2.2]) λx3=>sh (aI [li,li,li,li,li,li,li,li,li,li,.int IntKind.u8] a1) λ(x4:J11)=>AI ((x4.1,x4.2.1,x4.2.2.1,x4.2.2.2.1,x4.2.2.2.2.1,x4.2.2.2.2.2.1,x4.2.2.2.2.2.2.1,x4.2.2.2.2.2.2.2.1,x4.2.2.2.2.2.2.2.2.1,x4.2.2.2.2.2.2.2.2.2.1,x4.2.2.2.2.2.2.2.2.2.2),false) else sh (aq li (a2.plus 0)) λ(x2:Int)=>sh (bG (a2.plus 0) [vi (i64.wrap (x2+2))]) λx3=>sh (aq li a3) λ(x4:Int)=>sh (aq .str a0) λ(x5:ByteArray)=>if decide (x4<(↑(ByteArray.size x5):Int)) then sh (aq .str a0) λ(x6:ByteArray)=>sh (aq li a3) λ(x7:Int)=>sh (jd x6 x7) λx8=>if decide ((↑x8.toNat:Int)=46) then oQ n a0 a1 a2 a3 a4 else jN n a0 a1 a2 a3 a4 else jN n a0 a1 a2 a3 a4
def ml (n:Nat)(a0 a1 a2 a3:Addr)(a4:Value):M ((J11)×Bool):=sh (mH (a2.plus 1) 8 0 3 1) λx0=>sh (qS n a4 x0 4 45) λx1=>if !x1 then sh (aI [li,li,li,li,li,li,li,li,li,li,.int IntKind.u8] a2) λ(x2:J11)=>sh (bG a1 [vi x2.1,vi x2.2.1,vi x2.2.2.1,vi x2.2.2.2.1,vi x2.2.2.2.2.1,vi x2.2.2.2.2.2.1,vi x2.2.2.2.2.2.2.1,vi x2.2.2.2.2.2.2.2.1,vi x2.2.2.2.2.2.2.2.2.1,vi x2.2.2.2.2.2.2.2.2.2.1,.int IntKind.u8 x2.2.2.2.2.2.2.2.2.2.2]) λx3=>sh (aI [li,li,li,li,li,li,li,li,li,li,.int IntKind.u8] a1) λ(x4:J11)=>AI ((x4.1,x4.2.1,x4.2.2.1,x4.2.2.2.1,x4.2.2.2.2.1,x4.2.2.2.2.2.1,x4.2.2.2.2.2.2.1,x4.2.2.2.2.2.2.2.1,x4.2.2.2.2.2.2.2.2.1,x4.2.2.2.2.2.2.2.2.2.1,x4.2.2.2.2.2.2.2.2.2.2),false) else sh (bG (a2.plus 0) [vi 1]) λx2=>sh (aq li a3) λ(x3:Int)=>sh (aq .str a0) λ(x4:ByteArray)=>if decide (x3=(↑(ByteArray.size x4):Int)) then sh (aI [li,li,li,li,li,li,li,li,li,li,.int IntKind.u8] a2) λ(x5:J11)=>sh (bG a1 [vi x5.1,vi x5.2.1,vi x5.2.2.1,vi x5.2.2.2.1,vi x5.2.2.2.2.1,vi x5.2.2.2.2.2.1,vi x5.2.2.2.2.2.2.1,vi x5.2.2.2.2.2.2.2.1,vi x5.2.2.2.2.2.2.2.2.1,vi x5.2.2.2.2.2.2.2.2.2.1,.int IntKind.u8 x5.2.2.2.2.2.2.2.2.2.2]) λx6=>sh (aI [li,li,li,li,li,li,li,li,li,li,.int IntKind.u8] a1) λ(x7:J11)=>AI ((x7.1,x7.2.1,x7.2.2.1,x7.2.2.2.1,x7.2.2.2.2.1,x7.2.2.2.2.2.1,x7.2.2.2.2.2.2.1,x7.2.2.2.2.2.2.2.1,x7.2.2.2.2.2.2.2.2.1,x7.2.2.2.2.2.2.2.2.2.1,x7.2.2.2.2.2.2.2.2.2.2),true) else sh (aq .str a0) λ(x5:ByteArray)=>sh (aq li a3) λ(x6:Int)=>sh (jd x5 x6) λx7=>if !decide ((↑x7.toNat:Int)=84) then sh (aq .str a0) λ(x8:ByteArray)=>sh (aq li a3) λ(x9:Int)=>sh (jd x8 x9) λx10=>if !decide ((↑x10.toNat:Int)=32) then sh (aI [li,li,li,li,li,li,li,li,li,li,.int IntKind.u8] a2) λ(x11:J11)=>sh (bG a1 [vi x11.1,vi x11.2.1,vi x11.2.2.1,vi x11.2.2.2.1,vi x11.2.2.2.2.1,vi x11.2.2.2.2.2.1,vi x11.2.2.2.2.2.2.1,vi x11.2.2.2.2.2.2.2.1,vi x11.2.2.2.2.2.2.2.2.1,vi x11.2.2.2.2.2.2.2.2.2.1,.int IntKind.u8 x11.2.2.2.2.2.2.2.2.2.2]) λx12=>sh (aI [li,li,li,li,li,li,li,li,li,li,.int IntKind.u8] a1) λ(x13:J11)=>AI ((x13.1,x13.2.1,x13.2.2.1,x13.2.2.2.1,x13.2.2.2.2.1,x13.2.2.2.2.2.1,x13.2.2.2.2.2.2.1,x13.2.2.2.2.2.2.2.1,x13.2.2.2.2.2.2.2.2.1,x13.2.2.2.2.2.2.2.2.2.1,x13.2.2.2.2.2.2.2.2.2.2),false) else sh (aq li a3) λ(x11:Int)=>sh (bG a3 [vi (i64.wrap (x11+1))]) λx12=>fK n a0 a1 a2 a3 a4 else sh (aq li a3) λ(x8:Int)=>sh (bG a3 [vi (i64.wrap (x8+1))]) λx9=>fK n a0 a1 a2 a3 a4
def lT (n:Nat)(a0:ByteArray):M ((J11)×Bool):=sh (aO none dT [.string a0]) λx0=>sh (aO none bT [vi 0,vi 0,vi 0,vi 0,vi 0,vi 0,vi 0,vi 0,vi 0,vi 0,.int IntKind.u8 0]) λx1=>sh (aO none bT [vi 0,vi 0,vi 0,vi 0,vi 0,vi 0,vi 0,vi 0,vi 0,vi 0,.int IntKind.u8 0]) λx2=>sh (aO none au [vi 0]) λx3=>sh (bG (ak x3) [vi 0]) λx4=>sh (aO none tN [Value.nilFunc]) λx5=>sh (bG (ak x5) [.func (Fn.func nP) #[] #[.pointer (some (ak x3)),.pointer (some (ak x0))]]) λx6=>sh (aq .str (ak x0)) λ(x7:ByteArray)=>if decide (2<(↑(ByteArray.size x7):Int)) then sh (aq .str (ak x0)) λ(x8:ByteArray)=>sh (jd x8 2) λx9=>if !decide ((↑x9.toNat:Int)=58) then ml n (ak x0) (ak x1) (ak x2) (ak x3) (Value.func (Fn.func dB) #[] #[.pointer (some (ak x3)),.pointer (some (ak x0)),.pointer (some (ak x5))]) else fK n (ak x0) (ak x1) (ak x2) (ak x3) (Value.func (Fn.func dB) #[] #[.pointer (some (ak x3)),.pointer (some (ak x0)),.pointer (some (ak x5))]) else fK n (ak x0) (ak x1) (ak x2) (ak x3) (Value.func (Fn.func dB) #[] #[.pointer (some (ak x3)),.pointer (some (ak x0)),.pointer (some (ak x5))])
abbrev aab (n:Nat):bz:=⟨41,[oe],[.agg [.int .i64,.int .i64,.int .i64,.int .i64,.int .i64,.int .i64,.int .i64,.int .i64,.int .i64,.int .i64,.int .u8],jz],λx=>lT n x⟩
abbrev Ih:L1:=⟨[0,0,1,1,0,1,0,1,1,1,1,1,1,1,1],[(1,aK),(2,aK),(4,aK),(5,aK),(7,rW),(8,aB)],[(8,aB)],[8]++List.range' 66 34,0,λn x=>iz n x.1 x.2.1 x.2.2.1 x.2.2.2.1 x.2.2.2.2.1 x.2.2.2.2.2⟩
abbrev Ii:L1:=⟨[0,1,1,1,1,0,1,0,1,1,1,1,1,1,1,1],[(1,aK),(2,aK),(4,aK),(5,aK),(7,rW),(8,aB)],[],[8]++List.range' 103 8,2,λn x=>jM n x.1 x.2.1 x.2.2.1 x.2.2.2.1 x.2.2.2.2.1 x.2.2.2.2.2⟩
abbrev Ij (n:Nat):List jx:=[⟨19,[cJ,aB,.one (.int .u8)],[jz],λx a=>qS n x a.1 a.2.1 a.2.2⟩, ⟨44,[cJ,aB,.one (.int .u8)],[jz],λx a=>qT n x a.1 a.2.1 a.2.2⟩, ⟨143,[cJ,aB,.one (.int .u8)],[jz],λx a=>jZ n x a.1 a.2.1 a.2.2⟩]
def M4 (i:Nat):Option (List (Nat×List Nat)):=cond (Nat.beq i 21) (some [(0,[]),(1,[]),(2,[]),(3,[]),(4,[]),(5,[]),(6,[]),(7,[]),(8,[]),(9,[]),(10,[])]) (cond (Nat.beq i 33) (some [(0,[]),(1,[]),(2,[]),(3,[]),(4,[]),(5,[1,2]),(6,[])]) (cond (Nat.beq i 36) (some [(0,[]),(1,[]),(2,[]),(3,[]),(4,[]),(5,[1,2]),(6,[])]) (none)))
abbrev Rp (n:Nat):List (gj Int):=[⟨[0,0,1,0,0,0,1,1,0,1,0,1,1,1,1,1,1,1,1],[.code [1,0,1,0,0,0,1,1,0,1,0,1,1,1,1,1,1,1,1],.ar 1],[(1,aK),(2,aK),(4,aK),(5,aK),(7,rW),(8,aB)],λx=>zP n x.1 x.2.1 x.2.2.1 x.2.2.2.1 x.2.2.2.2.1 x.2.2.2.2.2⟩]
abbrev abE (n:Nat):List (gj ((J11)×Bool)):=[⟨[0,0,0,1,0,1,1,1,1,1],[.code [1,0,0,1,0,1,1,1,1,1],.code [1,0,1,0,1,1,1,1,1],.code [1,1,1,1,1,1]],[(1,aK),(2,aK),(4,aK),(5,aK),(7,rW)],λx=>ml n x.1 x.2.1 x.2.2.1 x.2.2.2.1 x.2.2.2.2⟩, ⟨[0,0,1,1,1,1,1,1],[.code [1,0,1,1,1,1,1,1],.code [1,1,1,1,1,1,1]],[(1,aK),(2,aK),(4,aK),(5,aK),(7,rW)],λx=>fK n x.1 x.2.1 x.2.2.1 x.2.2.2.1 x.2.2.2.2⟩, ⟨[0,0,1,0,1,1,1,1,1,1,1,1],[.code [1,0,1,0,1,1,1,1,1,1,1,1],.code [1,1,1,1,1,1,1,1,1]],[(1,aK),(2,aK),(4,aK),(5,aK),(7,rW)],λx=>oQ n x.1 x.2.1 x.2.2.1 x.2.2.2.1 x.2.2.2.2⟩, ⟨[0,0,1,1,1,1,1,1,1,1,1],[.code [1,0,1,1,1,1,1,1,1,1,1],.code [1,1,1,1,1,1,1,1,1,1]],[(1,aK),(2,aK),(4,aK),(5,aK),(7,rW)],λx=>jN n x.1 x.2.1 x.2.2.1 x.2.2.2.1 x.2.2.2.2⟩, ⟨[0,0,1,0,1,1,1,1,1,1,1,1,1],[.code [1,0,1,0,1,1,1,1,1,1,1,1,1],.code [1,1,1,1,1,1,1,1,1,1]],[(1,aK),(2,aK),(4,aK),(5,aK),(7,rW)],λx=>oP n x.1 x.2.1 x.2.2.1 x.2.2.2.1 x.2.2.2.2⟩]
theorem M5 (n:Nat):oY TZp (Ij n):=.cons (dq (l:=[⟨70,[aK,aK,aK],λa c=>eI n a.1 a.2.1 a.2.2 c.1 c.2.1 c.2.2⟩]) (.cons (λa c=>aT (by kernel_rfl) ((na n) (a.1,a.2.1,a.2.2,c.1,c.2.1,c.2.2))) .nil) (λx a=>by kernel_rfl)) (.cons (dq (l:=[⟨70,[aK,aK,aK],λa c=>eI n a.1 a.2.1 a.2.2 c.1 c.2.1 c.2.2⟩]) (.cons (λa c=>aT (by kernel_rfl) ((na n) (a.1,a.2.1,a.2.2,c.1,c.2.1,c.2.2))) .nil) (λx a=>by kernel_rfl)) (.cons (dq (l:=[⟨70,[aK,aK,aK],λa c=>eI n a.1 a.2.1 a.2.2 c.1 c.2.1 c.2.2⟩]) (.cons (λa c=>aT (by kernel_rfl) ((na n) (a.1,a.2.1,a.2.2,c.1,c.2.1,c.2.2))) .nil) (λx a=>by kernel_rfl)) .nil))
theorem Rq (n:Nat):kE TZp Tryz.f41 (Ii.e n) Ii.ws:=L1.ok Tryz.f41 Ii n C36 (dt:=Ij) (dr:=M4) (hT:=λm _=>⟨.nil,K36 m,(M5 m),.nil,.nil⟩)
theorem Rr (n:Nat):kE TZp Tryz.f41 (Ih.e n) Ih.ws:=L1.ok Tryz.f41 Ih n C36 (dt:=Ij) (dr:=M4) (jt:=Rp) (hT:=λm _=>⟨.nil,K36 m,(M5 m),.nil,(.cc .nil)⟩)
theorem CV (n:Nat):aP TZp (aab n):=bE Tryz.f41 (C36 n) (dl:=Ij n) (ll:=[Ih.e n,Ii.e n]) (dr:=M4) (js:=abE n) (hT:=⟨.nil,K36 n,(M5 n),(.cc (Rr n) (.cc (Rq n) .nil)),(.cc (.cc (.cc (.cc (.cc .nil)))))⟩)
abbrev C37 (n:Nat):List bz:=aab n::C36 n
theorem K37 (n:Nat):aJ TZp (C37 n):=.cons (CV n) (K36 n)
def we (n:Nat)(a0:Int):M Bool:=sh (kC (decide (4≠0))) λx0=>if decide (a0.tmod 4=0) then sh (kC (decide (100≠0))) λx1=>if !decide (a0.tmod 100=0) then AI true else sh (kC (decide (400≠0))) λx2=>AI (decide (a0.tmod 400=0)) else AI false
abbrev Uu (n:Nat):bz:=⟨130,[aB],[jz],λx=>we n x⟩
theorem Gf (n:Nat):aP TZp (Uu n):=bE Tryz.f130 (C37 n) (hT:=.m1 (K37 n))
abbrev C38 (n:Nat):List bz:=Uu n::C37 n
theorem K38 (n:Nat):aJ TZp (C38 n):=.cons (Gf n) (K37 n)
def lU (n:Nat)(a0 a1:Int):M Int:=sh (aO none ET [vi 0,vi 0,vi 0,vi 0,vi 0,vi 0,vi 0,vi 0,vi 0,vi 0,vi 0,vi 0,vi 0]) λx0=>sh (bG (ak x0) [vi 0,vi 31,vi 28,vi 31,vi 30,vi 31,vi 30,vi 31,vi 31,vi 30,vi 31,vi 30,vi 31]) λx1=>if decide (a1=2) then sh (we n a0) λx2=>if x2 then AI 29 else sh (kC (decide (0<=a1/\a1<(↑13:Int)))) λx3=>sh (aq li ((ak x0).plus (a1.toNat*1))) λ(x4:Int)=>AI x4 else sh (kC (decide (0<=a1/\a1<(↑13:Int)))) λx2=>sh (aq li ((ak x0).plus (a1.toNat*1))) λ(x3:Int)=>AI x3
abbrev Uv (n:Nat):bz:=⟨100,[aB,aB],[aB],λx=>lU n x.1 x.2⟩
theorem CW (n:Nat):aP TZp (Uv n):=bE Tryz.f100 (C38 n) (hT:=.m1 (K38 n))
abbrev C39 (n:Nat):List bz:=Uv n::C38 n
theorem K39 (n:Nat):aJ TZp (C39 n):=.cons (CW n) (K38 n)
def rX (n:Nat)(a0:Int):M Int:=sh (kC (decide (4≠0))) λx0=>sh (kC (decide (100≠0))) λx1=>sh (kC (decide (400≠0))) λx2=>AI (i64.wrap (i64.wrap (i64.wrap (i64.wrap (365*a0)+i64.wrap ((i64.wrap (a0+3)).tdiv 4))-i64.wrap ((i64.wrap (a0+99)).tdiv 100))+i64.wrap ((i64.wrap (a0+399)).tdiv 400)))
abbrev Uw (n:Nat):bz:=⟨101,[aB],[aB],λx=>rX n x⟩
theorem E4 (n:Nat):aP TZp (Uw n):=bE Tryz.f101 (C39 n) (hT:=.m1 (K39 n))
abbrev C40 (n:Nat):List bz:=Uw n::C39 n
theorem K40 (n:Nat):aJ TZp (C40 n):=.cons (E4 n) (K39 n)
def mm (G:Int->Int->Int->Int->M Int)(n:Nat)(a0 a1 a2 a3:Int):M Int:=if decide (a3<a1) then sh (lU n a0 a3) λx0=>G a0 a1 (i64.wrap (a2+x0)) (i64.wrap (a3+1)) else AI a2
def gQ:Nat->Int->Int->Int->Int->M Int|0=>λ_ _ _ _=>AS|n+1=>mm (gQ n) n
theorem o8 (n:Nat):gQ (n+1)=mm (gQ n) n:=rfl
def zl (n:Nat)(a0 a1 a2:Int):M (Int×Int):=sh (rX n a0) λx0=>sh (gQ n a0 a1 (i64.wrap (i64.wrap (i64.wrap (x0+a2)-1)-719528)) 1) λx1=>AI (x1,0)
def wg (n:Nat)(a0 a1 a2:Int):M (Int×Int):=if decide (a0<0) then AI (0,13) else if decide (9999<a0) then AI (0,13) else if decide (a1<1) then AI (0,13) else if decide (12<a1) then AI (0,13) else if decide (a2<1) then AI (0,13) else sh (lU n a0 a1) λx0=>if decide (x0<a2) then AI (0,13) else zl n a0 a1 a2
abbrev aac (n:Nat):bz:=⟨71,[aB,aB,aB],[aB,aB],λx=>wg n x.1 x.2.1 x.2.2⟩
abbrev Ik:L1:=⟨[0,1,0,1,1,1],[(0,aB),(1,aB),(8,aB),(9,aB)],[(8,aB)],[8,9]++List.range' 41 10,0,λn x=>gQ n x.1 x.2.1 x.2.2.1 x.2.2.2⟩
abbrev abF (n:Nat):List (gj (Int×Int)):=[⟨[0,1,1],[.code [1,1,1]],[(0,aB),(1,aB),(2,aB)],λx=>zl n x.1 x.2.1 x.2.2⟩]
theorem Rt (n:Nat):kE TZp Tryz.f71 (Ik.e n) Ik.ws:=L1.ok Tryz.f71 Ik n C40 (hT:=λm _=>.m1 (K40 m))
theorem Gg (n:Nat):aP TZp (aac n):=bE Tryz.f71 (C40 n) (ll:=[Ik.e n]) (js:=abF n) (hT:=⟨.nil,K40 n,.nil,(.cc (Rt n) .nil),(.cc .nil)⟩)
abbrev C41 (n:Nat):List bz:=aac n::C40 n
theorem K41 (n:Nat):aJ TZp (C41 n):=.cons (Gg n) (K40 n)
def eJ (G:Addr->(Int×Int×Int×Int×Int)->Int->M (Unit⊕Bool))(n:Nat)(a0:Addr)(a1:Int×Int×Int×Int×Int)(a2:Int):M (Unit⊕Bool):=if decide (a2<5) then sh (Hg li 5 [vi a1.1,vi a1.2.1,vi a1.2.2.1,vi a1.2.2.2.1,vi a1.2.2.2.2] a2) λx0=>sh (kC (decide (0<=i64.wrap (a2+3)/\i64.wrap (a2+3)<(↑8:Int)))) λx1=>sh (aq li ((a0.plus 1).plus ((i64.wrap (a2+3)).toNat*1))) λ(x2:Int)=>if decide (x0<x2) then AI (Sum.inr false) else G a0 (a1.1,a1.2.1,a1.2.2.1,a1.2.2.2.1,a1.2.2.2.2) (i64.wrap (a2+1)) else AI (Sum.inl ())
def dU:Nat->Addr->(Int×Int×Int×Int×Int)->Int->M (Unit⊕Bool)|0=>λ_ _ _=>AS|n+1=>eJ (dU n) n
def fG (n:Nat)(a0:Addr):M Bool:=sh (aO none Q5 [vi 0,vi 0,vi 0,vi 0,vi 0]) λx0=>sh (bG (ak x0) [vi 23,vi 59,vi 59,vi 23,vi 59]) λx1=>sh (aI [li,li,li,li,li] (ak x0)) λ(x2:Int×Int×Int×Int×Int)=>sh (dU n a0 (x2.1,x2.2.1,x2.2.2.1,x2.2.2.2.1,x2.2.2.2.2) 0) (cw (λx3=>AI true) (λx3=>AI x3))
def gJ (n:Nat)(a0:J11):M Bool:=sh (aO none bT [vi a0.1,vi a0.2.1,vi a0.2.2.1,vi a0.2.2.2.1,vi a0.2.2.2.2.1,vi a0.2.2.2.2.2.1,vi a0.2.2.2.2.2.2.1,vi a0.2.2.2.2.2.2.2.1,vi a0.2.2.2.2.2.2.2.2.1,vi a0.2.2.2.2.2.2.2.2.2.1,.int IntKind.u8 a0.2.2.2.2.2.2.2.2.2.2]) λx0=>sh (aq li ((ak x0).plus 0)) λ(x1:Int)=>if !decide (x1=2) then sh (kC (decide (0<=0/\0<(↑8:Int)))) λx2=>sh (aq li (((ak x0).plus 1).plus 0)) λ(x3:Int)=>sh (kC (decide (0<=1/\1<(↑8:Int)))) λx4=>sh (aq li (((ak x0).plus 1).plus 1)) λ(x5:Int)=>sh (kC (decide (0<=2/\2<(↑8:Int)))) λx6=>sh (aq li (((ak x0).plus 1).plus 2)) λ(x7:Int)=>sh (wg n x3 x5 x7) λx8=>if !decide (x8.2=0) then AI false else fG n (ak x0) else fG n (ak x0)
abbrev aad (n:Nat):bz:=⟨42,[.agg [.int .i64,.int .i64,.int .i64,.int .i64,.int .i64,.int .i64,.int .i64,.int .i64,.int .i64,.int .i64,.int .u8]],[jz],λx=>gJ n x⟩
abbrev Il:L2:=⟨[0,1,0,1,1,1],[(1,aK),(27,.agg [.int .i64,.int .i64,.int .i64,.int .i64,.int .i64]),(28,aB)],[],[(2,jz)],[2,6,7]++List.range' 28 12,0,.ret,λn x=>dU n x.1 x.2.1 x.2.2⟩
abbrev abG (n:Nat):List (gj Bool):=[⟨[0,1,1],[.code [1,1,1]],[(1,aK)],λx=>fG n x⟩]
theorem Ru (n:Nat):kE TZp Tryz.f42 (Il.e n) Il.ws:=L2.ok Tryz.f42 Il n C41 (hT:=λm _=>.m1 (K41 m))
theorem uX (n:Nat):aP TZp (aad n):=bE Tryz.f42 (C41 n) (ll:=[Il.e n]) (js:=abG n) (hT:=⟨.nil,K41 n,.nil,(.cc (Ru n) .nil),(.cc .nil)⟩)
abbrev C42 (n:Nat):List bz:=aad n::C41 n
theorem K42 (n:Nat):aJ TZp (C42 n):=.cons (uX n) (K41 n)
def oR (G:Int->Int->Int->M (Int×Int))(n:Nat)(a0 a1 a2:Int):M (Int×Int):=sh (lU n a1 a2) λx0=>if decide (x0<=a0) then sh (lU n a1 a2) λx1=>G (i64.wrap (a0-x1)) a1 (i64.wrap (a2+1)) else AI (a0,a2)
def iV:Nat->Int->Int->Int->M (Int×Int)|0=>λ_ _ _=>AS|n+1=>oR (iV n) n
theorem tR (n:Nat):iV (n+1)=oR (iV n) n:=rfl
def oS (G:Int->Int->M Int)(n:Nat)(a0 a1:Int):M Int:=sh (rX n (i64.wrap (a1+1))) λx0=>if decide (x0<=a0) then G a0 (i64.wrap (a1+1)) else AI a1
def iW:Nat->Int->Int->M Int|0=>λ_ _=>AS|n+1=>oS (iW n) n
theorem tS (n:Nat):iW (n+1)=oS (iW n) n:=rfl
def uY (n:Nat)(a0:Int):M (Int×Int×Int×Int):=sh (kC (decide (366≠0))) λx0=>sh (iW n (i64.wrap (a0+719528)) (i64.wrap ((i64.wrap (a0+719528)).tdiv 366))) λx1=>sh (rX n x1) λx2=>sh (iV n (i64.wrap (i64.wrap (a0+719528)-x2)) x1 1) λx3=>AI (x1,x3.2,i64.wrap (x3.1+1),0)
def zQ (n:Nat)(a0:Int):M (Int×Int×Int×Int):=if decide (a0 < -719528) then AI (0,0,0,13) else if decide (2932896<a0) then AI (0,0,0,13) else uY n a0
abbrev aae (n:Nat):bz:=⟨72,[aB],[aB,aB,aB,aB],λx=>zQ n x⟩
abbrev Im:L1:=⟨[0,0,1,1,1,1],[(6,aB),(7,aB)],[(7,aB)],[7]++List.range' 19 7,0,λn x=>iW n x.1 x.2⟩
abbrev Io:L1:=⟨[0,0,1,1,1,1,1,1,1],[(6,aB),(7,aB),(8,aB)],[(6,aB),(8,aB)],[6,8]++List.range' 30 12,2,λn x=>iV n x.1 x.2.1 x.2.2⟩
abbrev abH (n:Nat):List (gj (Int×Int×Int×Int)):=[⟨[0,1,1],[.code [1,1,1]],[(0,aB)],λx=>uY n x⟩]
theorem Rv (n:Nat):kE TZp Tryz.f72 (Io.e n) Io.ws:=L1.ok Tryz.f72 Io n C42 (hT:=λm _=>.m1 (K42 m))
theorem Rw (n:Nat):kE TZp Tryz.f72 (Im.e n) Im.ws:=L1.ok Tryz.f72 Im n C42 (hT:=λm _=>.m1 (K42 m))
theorem Gh (n:Nat):aP TZp (aae n):=bE Tryz.f72 (C42 n) (ll:=[Im.e n,Io.e n]) (js:=abH n) (hT:=⟨.nil,K42 n,.nil,(.cc (Rw n) (.cc (Rv n) .nil)),(.cc .nil)⟩)
abbrev C43 (n:Nat):List bz:=aae n::C42 n
theorem K43 (n:Nat):aJ TZp (C43 n):=.cons (Gh n) (K42 n)
def iX (n:Nat)(a0 a1:Int):M ByteArray:=sh (strconv_Itoa n a0) λx0=>sh (strings_Repeat n (ofBytes [48]) (if 0<i64.wrap (a1-(↑(ByteArray.size x0):Int)) then i64.wrap (a1-(↑(ByteArray.size x0):Int)) else 0)) λx1=>sh (kF x1 x0) λx2=>AI x2
abbrev Ux (n:Nat):bz:=⟨102,[aB,aB],[oe],λx=>iX n x.1 x.2⟩
theorem E5 (n:Nat):aP TZp (Ux n):=bE Tryz.f102 (C43 n) (hT:=.m1 (K43 n))
abbrev C44 (n:Nat):List bz:=Ux n::C43 n
theorem K44 (n:Nat):aJ TZp (C44 n):=.cons (E5 n) (K43 n)
def gq (n:Nat)(a0:Addr)(a1:ByteArray):M ByteArray:=sh (aq li (a0.plus 9)) λ(x0:Int)=>if decide (0<x0) then sh (aq li (a0.plus 9)) λ(x1:Int)=>sh (iX n x1 9) λx2=>sh (gn n x2 (ofBytes [48])) λx3=>sh (kF (ofBytes [46]) x3) λx4=>sh (kF a1 x4) λx5=>AI x5 else AI a1
def dN (n:Nat)(a0:Addr)(a1:ByteArray):M ByteArray:=sh (aq li (a0.plus 0)) λ(x0:Int)=>if !decide (x0=1) then sh (kC (decide (0<=3/\3<(↑8:Int)))) λx1=>sh (kC (decide (0<=4/\4<(↑8:Int)))) λx2=>sh (kC (decide (0<=5/\5<(↑8:Int)))) λx3=>sh (aq li ((a0.plus 1).plus 3)) λ(x4:Int)=>sh (aq li ((a0.plus 1).plus 4)) λ(x5:Int)=>sh (aq li ((a0.plus 1).plus 5)) λ(x6:Int)=>sh (kG [some ((a0.plus 1).plus 4),some ((a0.plus 1).plus 5)] (iX n x4 2)) λx7=>sh (kF x7 (ofBytes [58])) λx8=>sh (kG [some ((a0.plus 1).plus 5)] (iX n x5 2)) λx9=>sh (kF x8 x9) λx10=>sh (kF x10 (ofBytes [58])) λx11=>sh (iX n x6 2) λx12=>sh (kF x11 x12) λx13=>sh (kF a1 x13) λiK=>gq n a0 iK else gq n a0 a1
def iJ (n:Nat)(a0:J11):M ByteArray:=sh (aO none bT [vi a0.1,vi a0.2.1,vi a0.2.2.1,vi a0.2.2.2.1,vi a0.2.2.2.2.1,vi a0.2.2.2.2.2.1,vi a0.2.2.2.2.2.2.1,vi a0.2.2.2.2.2.2.2.1,vi a0.2.2.2.2.2.2.2.2.1,vi a0.2.2.2.2.2.2.2.2.2.1,.int IntKind.u8 a0.2.2.2.2.2.2.2.2.2.2]) λx0=>sh (aq li ((ak x0).plus 0)) λ(x1:Int)=>if !decide (x1=2) then sh (kC (decide (0<=0/\0<(↑8:Int)))) λx2=>sh (kC (decide (0<=1/\1<(↑8:Int)))) λx3=>sh (kC (decide (0<=2/\2<(↑8:Int)))) λx4=>sh (aq li (((ak x0).plus 1).plus 0)) λ(x5:Int)=>sh (aq li (((ak x0).plus 1).plus 1)) λ(x6:Int)=>sh (aq li (((ak x0).plus 1).plus 2)) λ(x7:Int)=>sh (kG [some (((ak x0).plus 1).plus 1),some (((ak x0).plus 1).plus 2)] (iX n x5 4)) λx8=>sh (kF x8 (ofBytes [45])) λx9=>sh (kG [some (((ak x0).plus 1).plus 2)] (iX n x6 2)) λx10=>sh (kF x9 x10) λx11=>sh (kF x11 (ofBytes [45])) λx12=>sh (iX n x7 2) λx13=>sh (kF x12 x13) λiK=>sh (aq li ((ak x0).plus 0)) λ(x15:Int)=>if decide (x15=3) then sh (kF iK (ofBytes [84])) λpo=>dN n (ak x0) po else dN n (ak x0) iK else sh (aq li ((ak x0).plus 0)) λ(x2:Int)=>if decide (x2=3) then sh (kF (ofBytes []) (ofBytes [84])) λx3=>dN n (ak x0) x3 else dN n (ak x0) (ofBytes [])
abbrev aaf (n:Nat):bz:=⟨73,[.agg [.int .i64,.int .i64,.int .i64,.int .i64,.int .i64,.int .i64,.int .i64,.int .i64,.int .i64,.int .i64,.int .u8]],[oe],λx=>iJ n x⟩
def abI (i:Nat):Option (List (Nat×List Nat)):=cond (Nat.beq i 3) (some [(0,[]),(1,[]),(5,[]),(6,[]),(11,[]),(12,[]),(2,[]),(7,[]),(13,[]),(3,[7,13]),(4,[]),(8,[13]),(9,[]),(10,[]),(14,[]),(15,[]),(16,[])]) (cond (Nat.beq i 7) (some [(0,[]),(1,[]),(2,[]),(6,[]),(7,[]),(12,[]),(13,[]),(3,[]),(8,[]),(14,[]),(4,[8,14]),(5,[]),(9,[14]),(10,[]),(11,[]),(15,[]),(16,[]),(17,[]),(18,[])]) (none))
abbrev abJ (n:Nat):List (gj ByteArray):=[⟨[0,0,1,1,1,1],[.code [1,0,1,1,1,1],.code [1,1,1,1,1]],[(1,aK),(3,oe)],λx=>dN n x.1 x.2⟩, ⟨[0,0,1,1,1,1,1],[.code [1,0,1,1,1,1,1],.code [1,1,1,1,1,1]],[(1,aK),(3,oe)],λx=>gq n x.1 x.2⟩]
theorem wh (n:Nat):aP TZp (aaf n):=bE Tryz.f73 (C44 n) (dr:=abI) (js:=abJ n) (hT:=⟨.nil,K44 n,.nil,.nil,(.cc (.cc .nil))⟩)
abbrev C45 (n:Nat):List bz:=aaf n::C44 n
theorem K45 (n:Nat):aJ TZp (C45 n):=.cons (wh n) (K44 n)
def gS (n:Nat)(a0 a1 a2:Int):M (ByteArray×Int):=sh (zQ n a1) λx0=>if !decide (x0.2.2.2=0) then AI ((ofBytes []),13) else sh (kC (decide (3600≠0))) λx1=>sh (kC (decide (60≠0))) λx2=>sh (kC (decide (60≠0))) λx3=>sh (kC (decide (60≠0))) λx4=>sh (aO none bT [vi 0,vi 0,vi 0,vi 0,vi 0,vi 0,vi 0,vi 0,vi 0,vi 0,.int IntKind.u8 0]) λx5=>sh (bG (ak x5) [vi 3,vi x0.1,vi x0.2.1,vi x0.2.2.1,vi (i64.wrap (a2.tdiv 3600)),vi ((i64.wrap (a2.tdiv 60)).tmod 60),vi (a2.tmod 60),vi 0,vi 0,vi a0,.int IntKind.u8 0]) λx6=>sh (aI [li,li,li,li,li,li,li,li,li,li,.int IntKind.u8] (ak x5)) λ(x7:J11)=>sh (iJ n (x7.1,x7.2.1,x7.2.2.1,x7.2.2.2.1,x7.2.2.2.2.1,x7.2.2.2.2.2.1,x7.2.2.2.2.2.2.1,x7.2.2.2.2.2.2.2.1,x7.2.2.2.2.2.2.2.2.1,x7.2.2.2.2.2.2.2.2.2.1,x7.2.2.2.2.2.2.2.2.2.2)) λx8=>sh (kF x8 (ofBytes [90])) λx9=>AI (x9,0)
def nD (n:Nat)(a0 a1:Int):M (ByteArray×Int):=sh (kC (decide (86400≠0))) λx0=>sh (kC (decide (86400≠0))) λx1=>if decide (a0.tmod 86400<0) then gS n a1 (i64.wrap (i64.wrap (a0.tdiv 86400)-1)) (i64.wrap (a0.tmod 86400+86400)) else gS n a1 (i64.wrap (a0.tdiv 86400)) (a0.tmod 86400)
def nf (n:Nat)(a0 a1:Int):M (ByteArray×Int):=if decide (a1<0) then AI ((ofBytes []),2) else if decide (999999999<a1) then AI ((ofBytes []),2) else if decide (a0 < -62167219200) then AI ((ofBytes []),13) else if decide (253402300800<=a0) then AI ((ofBytes []),13) else nD n a0 a1
abbrev aag (n:Nat):bz:=⟨43,[aB,aB],[oe,aB],λx=>nf n x.1 x.2⟩
abbrev abK (n:Nat):List (gj (ByteArray×Int)):=[⟨[0,1,1,1],[.code [1,1,1,1]],[(0,aB),(1,aB)],λx=>nD n x.1 x.2⟩, ⟨[0,1,1,1,1,1],[.code [1,1,1,1,1,1]],[(1,aB),(6,aB),(7,aB)],λx=>gS n x.1 x.2.1 x.2.2⟩]
theorem xP (n:Nat):aP TZp (aag n):=bE Tryz.f43 (C45 n) (js:=abK n) (hT:=⟨.nil,K45 n,.nil,.nil,(.cc (.cc .nil))⟩)
abbrev C46 (n:Nat):List bz:=aag n::C45 n
theorem K46 (n:Nat):aJ TZp (C46 n):=.cons (xP n) (K45 n)
def iS (n:Nat)(a0:J11):M Int:=sh (aO none bT [vi a0.1,vi a0.2.1,vi a0.2.2.1,vi a0.2.2.2.1,vi a0.2.2.2.2.1,vi a0.2.2.2.2.2.1,vi a0.2.2.2.2.2.2.1,vi a0.2.2.2.2.2.2.2.1,vi a0.2.2.2.2.2.2.2.2.1,vi a0.2.2.2.2.2.2.2.2.2.1,.int IntKind.u8 a0.2.2.2.2.2.2.2.2.2.2]) λx0=>sh (kC (decide (0<=0/\0<(↑8:Int)))) λx1=>sh (aq li (((ak x0).plus 1).plus 0)) λ(x2:Int)=>sh (kC (decide (0<=1/\1<(↑8:Int)))) λx3=>sh (aq li (((ak x0).plus 1).plus 1)) λ(x4:Int)=>sh (kC (decide (0<=2/\2<(↑8:Int)))) λx5=>sh (aq li (((ak x0).plus 1).plus 2)) λ(x6:Int)=>sh (wg n x2 x4 x6) λx7=>sh (kC (decide (0<=3/\3<(↑8:Int)))) λx8=>sh (aq li (((ak x0).plus 1).plus 3)) λ(x9:Int)=>sh (kC (decide (0<=4/\4<(↑8:Int)))) λx10=>sh (aq li (((ak x0).plus 1).plus 4)) λ(x11:Int)=>sh (kC (decide (0<=5/\5<(↑8:Int)))) λx12=>sh (aq li (((ak x0).plus 1).plus 5)) λ(x13:Int)=>sh (kC (decide (0<=6/\6<(↑8:Int)))) λiK=>sh (aq li (((ak x0).plus 1).plus 6)) λ(x15:Int)=>sh (kC (decide (0<=7/\7<(↑8:Int)))) λpo=>sh (aq li (((ak x0).plus 1).plus 7)) λ(x17:Int)=>sh (aq (.int IntKind.u8) ((ak x0).plus 10)) λ(qH:Int)=>if decide (qH=43) then AI (i64.wrap (i64.wrap (i64.wrap (i64.wrap (i64.wrap (x7.1*86400)+i64.wrap (x9*3600))+i64.wrap (x11*60))+x13)-i64.wrap (i64.wrap (x15*3600)+i64.wrap (x17*60)))) else AI (i64.wrap (i64.wrap (i64.wrap (i64.wrap (i64.wrap (x7.1*86400)+i64.wrap (x9*3600))+i64.wrap (x11*60))+x13)+i64.wrap (i64.wrap (x15*3600)+i64.wrap (x17*60))))
abbrev aah (n:Nat):bz:=⟨44,[.agg [.int .i64,.int .i64,.int .i64,.int .i64,.int .i64,.int .i64,.int .i64,.int .i64,.int .i64,.int .i64,.int .u8]],[aB],λx=>iS n x⟩
theorem um (n:Nat):aP TZp (aah n):=bE Tryz.f44 (C46 n) (hT:=.m1 (K46 n))
abbrev C47 (n:Nat):List bz:=aah n::C46 n
theorem K47 (n:Nat):aJ TZp (C47 n):=.cons (um n) (K46 n)
def lV (n:Nat)(a0:Addr):M (ByteArray×Int):=sh (aI [li,li,li,li,li,li,li,li,li,li,.int IntKind.u8] a0) λ(x0:J11)=>sh (gJ n (x0.1,x0.2.1,x0.2.2.1,x0.2.2.2.1,x0.2.2.2.2.1,x0.2.2.2.2.2.1,x0.2.2.2.2.2.2.1,x0.2.2.2.2.2.2.2.1,x0.2.2.2.2.2.2.2.2.1,x0.2.2.2.2.2.2.2.2.2.1,x0.2.2.2.2.2.2.2.2.2.2)) λx1=>if !x1 then AI ((ofBytes []),13) else sh (aI [li,li,li,li,li,li,li,li,li,li,.int IntKind.u8] a0) λ(x2:J11)=>sh (aq li (a0.plus 9)) λ(x3:Int)=>sh (kG [some (a0.plus 9)] (iS n (x2.1,x2.2.1,x2.2.2.1,x2.2.2.2.1,x2.2.2.2.2.1,x2.2.2.2.2.2.1,x2.2.2.2.2.2.2.1,x2.2.2.2.2.2.2.2.1,x2.2.2.2.2.2.2.2.2.1,x2.2.2.2.2.2.2.2.2.2.1,x2.2.2.2.2.2.2.2.2.2.2))) λx4=>sh (nf n x4 x3) λx5=>AI (x5.1,x5.2)
def mr (n:Nat)(a0:ByteArray):M (ByteArray×Int):=sh (lT n a0) λx0=>sh (aO none bT [vi 0,vi 0,vi 0,vi 0,vi 0,vi 0,vi 0,vi 0,vi 0,vi 0,.int IntKind.u8 0]) λx1=>sh (bG (ak x1) [vi x0.1.1,vi x0.1.2.1,vi x0.1.2.2.1,vi x0.1.2.2.2.1,vi x0.1.2.2.2.2.1,vi x0.1.2.2.2.2.2.1,vi x0.1.2.2.2.2.2.2.1,vi x0.1.2.2.2.2.2.2.2.1,vi x0.1.2.2.2.2.2.2.2.2.1,vi x0.1.2.2.2.2.2.2.2.2.2.1,.int IntKind.u8 x0.1.2.2.2.2.2.2.2.2.2.2]) λx2=>if !x0.2 then AI ((ofBytes []),3) else sh (aq (.int IntKind.u8) ((ak x1).plus 10)) λ(x3:Int)=>if decide (x3=0) then AI ((ofBytes []),3) else lV n (ak x1)
abbrev aai (n:Nat):bz:=⟨31,[oe],[oe,aB],λx=>mr n x⟩
def abL (i:Nat):Option (List (Nat×List Nat)):=cond (Nat.beq i 6) (some [(2,[]),(0,[]),(3,[]),(1,[3]),(4,[]),(5,[]),(6,[]),(7,[]),(8,[])]) (none)
abbrev abM (n:Nat):List (gj (ByteArray×Int)):=[⟨[0,0,1,1,1],[.code [1,0,1,1,1],.code [1,1,1,1]],[(4,aK)],λx=>lV n x⟩]
theorem zR (n:Nat):aP TZp (aai n):=bE Tryz.f31 (C47 n) (dr:=abL) (js:=abM n) (hT:=⟨.nil,K47 n,.nil,.nil,(.cc .nil)⟩)
abbrev C48 (n:Nat):List bz:=aai n::C47 n
theorem K48 (n:Nat):aJ TZp (C48 n):=.cons (zR n) (K47 n)
def rN (n:Nat)(a0:ByteArray):M (ByteArray×Int):=sh (lT n a0) λx0=>sh (aO none bT [vi 0,vi 0,vi 0,vi 0,vi 0,vi 0,vi 0,vi 0,vi 0,vi 0,.int IntKind.u8 0]) λx1=>sh (bG (ak x1) [vi x0.1.1,vi x0.1.2.1,vi x0.1.2.2.1,vi x0.1.2.2.2.1,vi x0.1.2.2.2.2.1,vi x0.1.2.2.2.2.2.1,vi x0.1.2.2.2.2.2.2.1,vi x0.1.2.2.2.2.2.2.2.1,vi x0.1.2.2.2.2.2.2.2.2.1,vi x0.1.2.2.2.2.2.2.2.2.2.1,.int IntKind.u8 x0.1.2.2.2.2.2.2.2.2.2.2]) λx2=>if !x0.2 then AI ((ofBytes []),3) else sh (aq (.int IntKind.u8) ((ak x1).plus 10)) λ(x3:Int)=>if !decide (x3=0) then AI ((ofBytes []),3) else sh (aI [li,li,li,li,li,li,li,li,li,li,.int IntKind.u8] (ak x1)) λ(x4:J11)=>sh (gJ n (x4.1,x4.2.1,x4.2.2.1,x4.2.2.2.1,x4.2.2.2.2.1,x4.2.2.2.2.2.1,x4.2.2.2.2.2.2.1,x4.2.2.2.2.2.2.2.1,x4.2.2.2.2.2.2.2.2.1,x4.2.2.2.2.2.2.2.2.2.1,x4.2.2.2.2.2.2.2.2.2.2)) λx5=>if !x5 then AI ((ofBytes []),13) else sh (aI [li,li,li,li,li,li,li,li,li,li,.int IntKind.u8] (ak x1)) λ(x6:J11)=>sh (iJ n (x6.1,x6.2.1,x6.2.2.1,x6.2.2.2.1,x6.2.2.2.2.1,x6.2.2.2.2.2.1,x6.2.2.2.2.2.2.1,x6.2.2.2.2.2.2.2.1,x6.2.2.2.2.2.2.2.2.1,x6.2.2.2.2.2.2.2.2.2.1,x6.2.2.2.2.2.2.2.2.2.2)) λx7=>AI (x7,0)
abbrev aaj (n:Nat):bz:=⟨45,[oe],[oe,aB],λx=>rN n x⟩
theorem BN (n:Nat):aP TZp (aaj n):=bE Tryz.f45 (C48 n) (hT:=.m1 (K48 n))
abbrev C49 (n:Nat):List bz:=aaj n::C48 n
theorem K49 (n:Nat):aJ TZp (C49 n):=.cons (BN n) (K48 n)
def oE (n:Nat)(a0:ByteArray):M Int:=sh (rN n a0) λx0=>if !decide (x0.2=0) then AI 0 else if !mI x0.1 a0 then AI 0 else sh (lT n a0) λx1=>sh (aO none bT [vi 0,vi 0,vi 0,vi 0,vi 0,vi 0,vi 0,vi 0,vi 0,vi 0,.int IntKind.u8 0]) λx2=>sh (bG (ak x2) [vi x1.1.1,vi x1.1.2.1,vi x1.1.2.2.1,vi x1.1.2.2.2.1,vi x1.1.2.2.2.2.1,vi x1.1.2.2.2.2.2.1,vi x1.1.2.2.2.2.2.2.1,vi x1.1.2.2.2.2.2.2.2.1,vi x1.1.2.2.2.2.2.2.2.2.1,vi x1.1.2.2.2.2.2.2.2.2.2.1,.int IntKind.u8 x1.1.2.2.2.2.2.2.2.2.2.2]) λx3=>sh (aq li ((ak x2).plus 0)) λ(x4:Int)=>AI x4
abbrev aak (n:Nat):bz:=⟨32,[oe],[aB],λx=>oE n x⟩
theorem BO (n:Nat):aP TZp (aak n):=bE Tryz.f32 (C49 n) (hT:=.m1 (K49 n))
abbrev C50 (n:Nat):List bz:=aak n::C49 n
theorem K50 (n:Nat):aJ TZp (C50 n):=.cons (BO n) (K49 n)
end Go.Sh
