
import Derived.Test.YtmfkngdglbcngaaGreatDoorShLib
set_option linter.all false
set_option maxRecDepth 100000
set_option maxHeartbeats 0
namespace Go.Sh
open Go Go.Ago Go.Proofs Go.IntKind
noncomputable abbrev TZp:=Tryz.prog
abbrev J11:=Int×Int×Int×Int×Int×Int×Int×Int×Int×Int×Int
abbrev C0 (n:Nat):List bB:=[⟨128,[.one (.int .u64)],[.one (.int .i64)],λx=>cW n x⟩,⟨129,[.one (.int .u64),.one (.int .i64)],[.one (.str)],υ2 (gj n)⟩,⟨194,[.one (.str),.one (.str)],[.one (.int .i64)],υ2 (dP n)⟩,⟨131,[.one (.str),.one (.int .i64)],[.one (.str)],υ2 (strings_Repeat n)⟩,⟨99,[.one (.f64)],[.one (.int .u64)],λx=>fh n x⟩,⟨103,[.one (.str),.one (.str)],[.one (.str)],υ2 (gI n)⟩,⟨174,[.one (.ptr)],[.one (.ptr)],λx=>qo n x⟩,⟨52,[.one (.str),.one (.int .u8)],[.one (.int .i64)],υ2 (strings_IndexByte n)⟩,⟨53,[.one (.str)],[.one (.int .i64),.one (.raw)],λx=>strconv_Atoi n x⟩,⟨54,[.one (.str),.one (.str)],[.one (.str)],υ2 (strings_TrimPrefix n)⟩,⟨87,[.one (.int .i64)],[.one (.str)],λx=>strconv_Itoa n x⟩,⟨89,[.one (.int .u64)],[.one (.f64)],λx=>cZ n x⟩,⟨122,[.one (.str),.one (.str)],[.one (.int .i64)],υ2 (ja n)⟩,⟨59,[.one (.str),.one (.str)],[.one (.str),.one (.bool)],υ2 (strings_CutPrefix n)⟩,⟨92,[.one (.int .u64)],[.one (.int .i64)],λx=>fQ n x⟩,⟨30,[.one (.str)],[.one (.int .i64),.one (.int .i64)],λx=>px n x⟩,⟨63,[.one (.str),.one (.int .i64),.one (.int .i64)],[.one (.int .u64),.one (.raw)],υ3 (fG n)⟩]
theorem K0 (n:Nat):aI TZp (C0 n):=.cons (tf n) (.cons (we n) (.cons (oC n) (.cons (Bw n) (.cons (zH n) (.cons (yv n) (.cons (Bx n) (.cons (yu n) (.cons (strconv_Atoi_ok n) (.cons (xO n) (.cons (DN n) (.cons (wc n) (.cons (w3 n) (.cons (yx n) (.cons (AA n) (.cons (Az n) (.cons (yy n) .nil))))))))))))))))
def pK (G:Addr->Bool->Sl->Int->Int->Sl->Int->Int->Sl->Int->Int->M Bool)(n:Nat)(a0:Addr)(a1:Bool)(a2:Sl)(a3 a4:Int)(a5:Sl)(a6 a7:Int)(a8:Sl)(a9 a10:Int):M Bool:=if decide (a10<a9) then sh (aw a8 a10 1) λx0=>sh (ar li x0) λ(x1:Int)=>if a1 then if decide (0<=x1) then sh (ar .sl (a0.plus 0)) λ(x2:Sl)=>G a0 (decide (x1<(↑x2.len:Int))) a2 a3 a4 a5 a6 a7 a8 a9 (i64.wrap (a10+1)) else G a0 false a2 a3 a4 a5 a6 a7 a8 a9 (i64.wrap (a10+1)) else G a0 false a2 a3 a4 a5 a6 a7 a8 a9 (i64.wrap (a10+1)) else AI a1
def jq:Nat->Addr->Bool->Sl->Int->Int->Sl->Int->Int->Sl->Int->Int->M Bool|0=>λ_ _ _ _ _ _ _ _ _ _ _=>AS|n+1=>pK (jq n) n
theorem xP (n:Nat):jq (n+1)=pK (jq n) n:=rfl
def jA (G:Addr->Bool->Sl->Int->Int->Sl->Int->Int->M Bool)(n:Nat)(a0:Addr)(a1:Bool)(a2:Sl)(a3 a4:Int)(a5:Sl)(a6 a7:Int):M Bool:=if decide (a7<a6) then sh (aw a5 a7 1) λx0=>sh (ar .sl x0) λ(x1:Sl)=>sh (jq n a0 a1 a2 a3 a4 a5 a6 a7 x1 (↑x1.len:Int) 0) λx2=>G a0 x2 a2 a3 a4 a5 a6 (i64.wrap (a7+1)) else AI a1
def jr:Nat->Addr->Bool->Sl->Int->Int->Sl->Int->Int->M Bool|0=>λ_ _ _ _ _ _ _ _=>AS|n+1=>jA (jr n) n
theorem nD (n:Nat):jr (n+1)=jA (jr n) n:=rfl
def pL (G:Addr->Bool->Sl->Int->Int->M Bool)(n:Nat)(a0:Addr)(a1:Bool)(a2:Sl)(a3 a4:Int):M Bool:=if decide (a4<a3) then sh (aw a2 a4 5) λx0=>sh (aN [li,.str,.bool,.sl,.sl] x0) λ(x1:Int×ζ×Bool×Sl×Sl)=>sh (aM none az [vi 0,.string (ofBytes []),.bool false,aT,aT]) λx2=>sh (bF (an x2) [vi x1.1,.string x1.2.1,.bool x1.2.2.1,aH x1.2.2.2.1,aH x1.2.2.2.2]) λx3=>sh (ar .sl ((an x2).plus 3)) λ(x4:Sl)=>sh (ar .sl ((an x2).plus 4)) λ(x5:Sl)=>sh (aM none aQ [aH x4,aH x5]) λx6=>sh (jr n a0 a1 a2 a3 a4 { a:=some (an x6),len:=2,cap:=3 } (↑2:Int) 0) λx7=>G a0 x7 a2 a3 (i64.wrap (a4+1)) else AI a1
def ju:Nat->Addr->Bool->Sl->Int->Int->M Bool|0=>λ_ _ _ _ _=>AS|n+1=>pL (ju n) n
theorem xQ (n:Nat):ju (n+1)=pL (ju n) n:=rfl
def lC (n:Nat)(a0:Addr)(a1:Bool):M Bool:=sh (ar .sl (a0.plus 0)) λ(x0:Sl)=>sh (ju n a0 a1 x0 (↑x0.len:Int) 0) λx1=>AI x1
def sA (n:Nat)(a0:Sl×Int):M Bool:=sh (aM none aj [aH a0.1,vi a0.2]) λx0=>sh (ar li ((an x0).plus 1)) λ(x1:Int)=>if decide (0<=x1) then sh (ar li ((an x0).plus 1)) λ(x2:Int)=>sh (ar .sl ((an x0).plus 0)) λ(x3:Sl)=>lC n (an x0) (decide (x2<(↑x3.len:Int))) else lC n (an x0) false
abbrev aaD (n:Nat):bB:=⟨11,[.agg [.sl,.int .i64]],[jT],λx=>sA n x⟩
abbrev IY:L1:=⟨[0,1,0,1,1],[(1,aJ),(3,jT),(22,cN),(23,aC),(24,aC)],[(3,jT)],[3,5,7,9]++List.range' 24 35,0,λn=>υ5 (ju n)⟩
abbrev IZ:L1:=⟨[0,1,1,0,0,1,1,0,0,1,0,1,1],[(1,aJ),(3,jT),(22,cN),(23,aC),(24,aC),(32,cN),(33,aC),(34,aC)],[(3,jT)],[3,7,9]++List.range' 34 24,2,λn=>υ8 (jr n)⟩
abbrev I0:L1:=⟨[0,1,1,0,0,1,1,0,0,1,1,0,0,1,1,0,0,1,0,1,1],[(1,aJ),(3,jT),(22,cN),(23,aC),(24,aC),(32,cN),(33,aC),(34,aC),(38,cN),(39,aC),(40,aC)],[(3,jT)],[3,9]++List.range' 40 17,4,λn=>υ11 (jq n)⟩
abbrev acy (n:Nat):List (gC Bool):=[⟨[0,0,1,1],[.code [1,0,1,1],.code [1,1,1]],[(1,aJ),(3,jT)],υ2 (lC n)⟩]
theorem RW (n:Nat):kZ TZp Tryz.f11 (I0.e n) I0.ws:=L1.ok Tryz.f11 I0 n C0 (hT:=λm _=>.m1 (K0 m))
theorem RX (n:Nat):kZ TZp Tryz.f11 (IZ.e n) IZ.ws:=L1.ok Tryz.f11 IZ n C0 (lt:=λn=>[I0.e n]) (hT:=λm _=>⟨.nil,K0 m,.nil,(.cc (RW m) .nil),.nil⟩)
theorem RY (n:Nat):kZ TZp Tryz.f11 (IY.e n) IY.ws:=L1.ok Tryz.f11 IY n C0 (lt:=λn=>[IZ.e n]) (hT:=λm _=>⟨.nil,K0 m,.nil,(.cc (RX m) .nil),.nil⟩)
theorem Cv (n:Nat):aP TZp (aaD n):=bG Tryz.f11 (C0 n) (ll:=[IY.e n]) (js:=acy n) (hT:=⟨.nil,K0 n,.nil,(.cc (RY n) .nil),(.cc .nil)⟩)
abbrev C1 (n:Nat):List bB:=aaD n::C0 n
theorem K1 (n:Nat):aI TZp (C1 n):=.cons (Cv n) (K0 n)
structure bg where
 fV:Int->Addr->Addr->Sl->Int->Int->M Unit
 fW:Addr->Sl->Int->Int->M Unit
 eY:Int->Addr->Addr->Addr->M Unit
def gZ (G:bg)(n:Nat)(x:ξ)(a0:Int):M Unit:=if rh nQ x then sh (pG [aJ,aJ,aJ] x) λ(c:Addr×Addr×Addr)=>G.eY a0 c.1 c.2.1 c.2.2 else AS
abbrev nF:=gZ
def n7 (G:bg)(n:Nat)(a0:Int)(a1 a2:Addr)(a3:Sl)(a4 a5:Int):M Unit:=if decide (a5<a4) then sh (aw a3 a5 1) λx0=>sh (ar li x0) λ(x1:Int)=>sh (ar .raw a2) λ(x2:ξ)=>sh (gZ G n x2 x1) λx3=>G.fV a0 a1 a2 a3 a4 (i64.wrap (a5+1)) else AI ()
def n8 (G:bg)(n:Nat)(a0:Addr)(a1:Sl)(a2 a3:Int):M Unit:=if decide (a3<a2) then sh (aw a1 a3 1) λx0=>sh (ar li x0) λ(x1:Int)=>sh (ar .raw a0) λ(x2:ξ)=>sh (nF G n x2 x1) λx3=>G.fW a0 a1 a2 (i64.wrap (a3+1)) else AI ()
def qp (G:bg)(n:Nat)(a0:Int)(a1 a2 a3:Addr):M Unit:=sh (ar .sl a1) λ(x0:Sl)=>sh (aw x0 a0 1) λx1=>sh (ar .bool x1) λ(x2:Bool)=>if x2 then AI () else sh (ar .sl a1) λ(x3:Sl)=>sh (aw x3 a0 1) λx4=>sh (bF x4 [.bool true]) λx5=>sh (ar .sl (a2.plus 0)) λ(x6:Sl)=>sh (aw x6 a0 5) λx7=>sh (ar .sl (x7.plus 3)) λ(x8:Sl)=>sh (G.fV a0 a2 a3 x8 (↑x8.len:Int) 0) λx9=>sh (ar .sl (a2.plus 0)) λ(x10:Sl)=>sh (aw x10 a0 5) λx11=>sh (ar .sl (x11.plus 4)) λ(x12:Sl)=>sh (G.fW a3 x12 (↑x12.len:Int) 0) λx13=>AI ()
def bg.at:Nat->bg|0=>⟨λ_ _ _ _ _ _=>AS,λ_ _ _ _=>AS,λ_ _ _ _=>AS⟩|n+1=>⟨n7 (bg.at n) n,n8 (bg.at n) n,qp (bg.at n) n⟩
def fV (n:Nat):=(bg.at n).fV
theorem wg (n:Nat):fV (n+1)=n7 (bg.at n) n:=rfl
def fW (n:Nat):=(bg.at n).fW
theorem wh (n:Nat):fW (n+1)=n8 (bg.at n) n:=rfl
def eY (n:Nat):=(bg.at n).eY
theorem yz (n:Nat):eY (n+1)=qp (bg.at n) n:=rfl
def zI (n:Nat):=gZ (bg.at n) n
def zJ (n:Nat):=nF (bg.at n) n
abbrev Qf (n:Nat):bB:=⟨19,[aC,aJ,aJ,aJ],[],υ4 (eY n)⟩
abbrev I1:L1:=⟨[0,1,0,1,1],[(0,aC),(2,aJ),(3,aJ),(21,cN),(22,aC),(23,aC)],[],[6]++List.range' 23 8,0,λn=>υ6 (fV n)⟩
abbrev I3:L1:=⟨[0,1,1,1,1],[(3,aJ),(36,cN),(37,aC),(38,aC)],[],[8]++List.range' 38 8,2,λn=>υ4 (fW n)⟩
abbrev C2 (n:Nat):List bB:=Qf n::C1 n
abbrev I4 (n:Nat):List jM:=[⟨27,[aC],[],λx a=>zI n x a⟩, ⟨42,[aC],[],λx a=>zJ n x a⟩]
def iG (n:Nat):Prop:=aP TZp (Qf n)
theorem YY (n:Nat)(H:iG n):aI TZp (C2 n):=.cons H (K1 n)
theorem NY (n:Nat)(H:iG n):pI TZp (I4 n):=.cons (dw (l:=[⟨19,[aJ,aJ,aJ],λa c=>eY n a c.1 c.2.1 c.2.2⟩]) (.cons (λa c=>aV (by kernel_rfl) ((H) (a,c.1,c.2.1,c.2.2))) .nil) (λx a=>by kernel_rfl)) (.cons (dw (l:=[⟨19,[aJ,aJ,aJ],λa c=>eY n a c.1 c.2.1 c.2.2⟩]) (.cons (λa c=>aV (by kernel_rfl) ((H) (a,c.1,c.2.1,c.2.2))) .nil) (λx a=>by kernel_rfl)) .nil)
theorem RZ (n:Nat)(H:∀m,m<n->iG m):kZ TZp Tryz.f19 (I1.e n) I1.ws:=L1.ok Tryz.f19 I1 n C2 (dt:=I4) (hT:=λm hm=>⟨.nil,YY m (H m hm),(NY m (H m hm)),.nil,.nil⟩)
theorem R4 (n:Nat)(H:∀m,m<n->iG m):kZ TZp Tryz.f19 (I3.e n) I3.ws:=L1.ok Tryz.f19 I3 n C2 (dt:=I4) (hT:=λm hm=>⟨.nil,YY m (H m hm),(NY m (H m hm)),.nil,.nil⟩)
theorem wj (n:Nat)(H:∀m,m<n+1->iG m):aP TZp (Qf (n+1)):=bG Tryz.f19 (C2 n) (dl:=I4 n) (ll:=[I1.e n,I3.e n]) (hT:=⟨.nil,YY n (H n (aam n)),(NY n (H n (aam n))),(.cc (RZ n (λk hk=>H k (ab8 hk))) (.cc (R4 n (λk hk=>H k (ab8 hk))) .nil)),.nil⟩)
theorem rE:∀n m,m<n->iG m:=by
 intro n
 induction n with
 |zero=>intro m hm;exact absurd hm (agI m)
 |succ n ih=>
  intro m hm;cases m with
  |zero=>exact gu (fn:=Tryz.f19) (by kernel_rfl) (by kernel_rfl) (by kernel_rfl) (λ_=>rfl)
  |succ k=>exact wj k λm hm=>ih m (by omega)
theorem AB (n:Nat):aP TZp (Qf n):=(rE (n+1) n (aam n))
theorem K2 (n:Nat):aI TZp (C2 n):=YY n (rE (n+1) n (aam n))
def rM (n:Nat)(x:ξ)(a0:Int):M Unit:=if rh nQ x then sh (pG [aJ,aJ,aJ] x) λ(c:Addr×Addr×Addr)=>eY n a0 c.1 c.2.1 c.2.2 else AS
def nf (n:Nat)(a0:Sl×Int)(a1:Int)(a2:Sl):M Unit:=sh (aM none aj [aH a0.1,vi a0.2]) λx0=>sh (aM none zo [aH a2]) λx1=>sh (aM none wZ [Value.nilFunc]) λx2=>sh (bF (an x2) [.func (Fn.func nQ) #[] #[.pointer (some (an x1)),.pointer (some (an x0)),.pointer (some (an x2))]]) λx3=>sh (ar .raw (an x2)) λ(x4:ξ)=>sh (rM n x4 a1) λx5=>AI ()
abbrev aaE (n:Nat):bB:=⟨12,[.agg [.sl,.int .i64],aC,cN],[],υ3 (nf n)⟩
abbrev U7 (n:Nat):List jM:=[⟨8,[aC],[],λx a=>rM n x a⟩]
theorem acz (n:Nat):pI TZp (U7 n):=.cons (dw (l:=[⟨19,[aJ,aJ,aJ],λa c=>eY n a c.1 c.2.1 c.2.2⟩]) (.cons (λa c=>aV (by kernel_rfl) ((AB n) (a,c.1,c.2.1,c.2.2))) .nil) (λx a=>by kernel_rfl)) .nil
theorem Cw (n:Nat):aP TZp (aaE n):=bG Tryz.f12 (C2 n) (dl:=U7 n) (hT:=⟨.nil,K2 n,(acz n),.nil,.nil⟩)
abbrev C3 (n:Nat):List bB:=aaE n::C2 n
theorem K3 (n:Nat):aI TZp (C3 n):=.cons (Cw n) (K2 n)
def mP (G:ζ->Int->Int->M (Unit⊕Bool))(n:Nat)(a0:ζ)(a1 a2:Int):M (Unit⊕Bool):=if decide (a2<a1) then sh (jx a0 a2) λx0=>if decide (97<=(↑x0.toNat:Int)) then if decide ((↑x0.toNat:Int)<=122) then G a0 a1 (i64.wrap (a2+1)) else if decide (65<=(↑x0.toNat:Int)) then if decide ((↑x0.toNat:Int)<=90) then G a0 a1 (i64.wrap (a2+1)) else if decide (48<=(↑x0.toNat:Int)) then if decide ((↑x0.toNat:Int)<=57) then G a0 a1 (i64.wrap (a2+1)) else if decide ((↑x0.toNat:Int)=95) then G a0 a1 (i64.wrap (a2+1)) else if decide ((↑x0.toNat:Int)=45) then G a0 a1 (i64.wrap (a2+1)) else if decide ((↑x0.toNat:Int)=46) then G a0 a1 (i64.wrap (a2+1)) else if !decide ((↑x0.toNat:Int)=58) then AI (Sum.inr false) else G a0 a1 (i64.wrap (a2+1)) else if decide ((↑x0.toNat:Int)=95) then G a0 a1 (i64.wrap (a2+1)) else if decide ((↑x0.toNat:Int)=45) then G a0 a1 (i64.wrap (a2+1)) else if decide ((↑x0.toNat:Int)=46) then G a0 a1 (i64.wrap (a2+1)) else if !decide ((↑x0.toNat:Int)=58) then AI (Sum.inr false) else G a0 a1 (i64.wrap (a2+1)) else if decide (48<=(↑x0.toNat:Int)) then if decide ((↑x0.toNat:Int)<=57) then G a0 a1 (i64.wrap (a2+1)) else if decide ((↑x0.toNat:Int)=95) then G a0 a1 (i64.wrap (a2+1)) else if decide ((↑x0.toNat:Int)=45) then G a0 a1 (i64.wrap (a2+1)) else if decide ((↑x0.toNat:Int)=46) then G a0 a1 (i64.wrap (a2+1)) else if !decide ((↑x0.toNat:Int)=58) then AI (Sum.inr false) else G a0 a1 (i64.wrap (a2+1)) else if decide ((↑x0.toNat:Int)=95) then G a0 a1 (i64.wrap (a2+1)) else if decide ((↑x0.toNat:Int)=45) then G a0 a1 (i64.wrap (a2+1)) else if decide ((↑x0.toNat:Int)=46) then G a0 a1 (i64.wrap (a2+1)) else if !decide ((↑x0.toNat:Int)=58) then AI (Sum.inr false) else G a0 a1 (i64.wrap (a2+1)) else if decide (65<=(↑x0.toNat:Int)) then if decide ((↑x0.toNat:Int)<=90) then G a0 a1 (i64.wrap (a2+1)) else if decide (48<=(↑x0.toNat:Int)) then if decide ((↑x0.toNat:Int)<=57) then G a0 a1 (i64.wrap (a2+1)) else if decide ((↑x0.toNat:Int)=95) then G a0 a1 (i64.wrap (a2+1)) else if decide ((↑x0.toNat:Int)=45) then G a0 a1 (i64.wrap (a2+1)) else if decide ((↑x0.toNat:Int)=46) then G a0 a1 (i64.wrap (a2+1)) else if !decide ((↑x0.toNat:Int)=58) then AI (Sum.inr false) else G a0 a1 (i64.wrap (a2+1)) else if decide ((↑x0.toNat:Int)=95) then G a0 a1 (i64.wrap (a2+1)) else if decide ((↑x0.toNat:Int)=45) then G a0 a1 (i64.wrap (a2+1)) else if decide ((↑x0.toNat:Int)=46) then G a0 a1 (i64.wrap (a2+1)) else if !decide ((↑x0.toNat:Int)=58) then AI (Sum.inr false) else G a0 a1 (i64.wrap (a2+1)) else if decide (48<=(↑x0.toNat:Int)) then if decide ((↑x0.toNat:Int)<=57) then G a0 a1 (i64.wrap (a2+1)) else if decide ((↑x0.toNat:Int)=95) then G a0 a1 (i64.wrap (a2+1)) else if decide ((↑x0.toNat:Int)=45) then G a0 a1 (i64.wrap (a2+1)) else if decide ((↑x0.toNat:Int)=46) then G a0 a1 (i64.wrap (a2+1)) else if !decide ((↑x0.toNat:Int)=58) then AI (Sum.inr false) else G a0 a1 (i64.wrap (a2+1)) else if decide ((↑x0.toNat:Int)=95) then G a0 a1 (i64.wrap (a2+1)) else if decide ((↑x0.toNat:Int)=45) then G a0 a1 (i64.wrap (a2+1)) else if decide ((↑x0.toNat:Int)=46) then G a0 a1 (i64.wrap (a2+1)) else if !decide ((↑x0.toNat:Int)=58) then AI (Sum.inr false) else G a0 a1 (i64.wrap (a2+1)) else AI (Sum.inl ())
def nh:Nat->ζ->Int->Int->M (Unit⊕Bool)|0=>λ_ _ _=>AS|n+1=>mP (nh n) n
def w4 (n:Nat)(a0:ζ):M Bool:=sh (nh n a0 (↑a0.size:Int) 0) (cY (λx0=>if decide (1<=(↑a0.size:Int)) then AI (decide ((↑a0.size:Int)<=64)) else AI false) (λx0=>AI x0))
abbrev aaF (n:Nat):bB:=⟨20,[oS],[jT],λx=>w4 n x⟩
abbrev I5:L2:=⟨[0,1,0,1],[(0,oS),(6,aC),(7,aC)],[],[(2,jT)],[2,3,4]++List.range' 7 46,0,.ret,λn=>υ3 (nh n)⟩
theorem R5 (n:Nat):kZ TZp Tryz.f20 (I5.e n) I5.ws:=L2.ok Tryz.f20 I5 n C3 (hT:=λm _=>.m1 (K3 m))
theorem G6 (n:Nat):aP TZp (aaF n):=bG Tryz.f20 (C3 n) (ll:=[I5.e n]) (hT:=⟨.nil,K3 n,.nil,(.cc (R5 n) .nil),.nil⟩)
abbrev C4 (n:Nat):List bB:=aaF n::C3 n
theorem K4 (n:Nat):aI TZp (C4 n):=.cons (G6 n) (K3 n)
def qq (G:Sl->M Sl)(n:Nat)(a0:Sl):M Sl:=if decide (0<(↑a0.len:Int)) then sh (aw a0 (i64.wrap ((↑a0.len:Int)-1)) 1) λx0=>sh (ar (.int IntKind.u8) x0) λ(x1:Int)=>if decide (x1=0) then sh (lu a0 0 (i64.wrap ((↑a0.len:Int)-1)) gU 1) λx2=>G x2 else AI a0 else AI a0
def iN:Nat->Sl->M Sl|0=>λ_=>AS|n+1=>qq (iN n) n
theorem yA (n:Nat):iN (n+1)=qq (iN n) n:=rfl
def w5 (n:Nat)(a0:Sl):M Sl:=sh (iN n a0) λx0=>AI x0
abbrev aaG (n:Nat):bB:=⟨51,[cN],[cN],λx=>w5 n x⟩
abbrev I6:L1:=⟨[0,0,1],[(0,cN)],[(0,cN)],[0]++List.range' 3 17,0,λn x=>iN n x⟩
theorem R6 (n:Nat):kZ TZp Tryz.f51 (I6.e n) I6.ws:=L1.ok Tryz.f51 I6 n C4 (hT:=λm _=>.m1 (K4 m))
theorem DO (n:Nat):aP TZp (aaG n):=bG Tryz.f51 (C4 n) (ll:=[I6.e n]) (hT:=⟨.nil,K4 n,.nil,(.cc (R6 n) .nil),.nil⟩)
abbrev C5 (n:Nat):List bB:=aaG n::C4 n
theorem K5 (n:Nat):aI TZp (C5 n):=.cons (DO n) (K4 n)
def n9 (G:Addr->Addr->ζ->Int->Int->M (Unit⊕Bool))(n:Nat)(a0 a1:Addr)(a2:ζ)(a3 a4 a5:Int):M (Unit⊕Bool):=sh (jx a2 a3) λx0=>sh (ar .sl (a1.plus 1)) λ(x1:Sl)=>sh (aw x1 (i64.wrap (i64.wrap ((↑a2.size:Int)-1)-a3)) 1) λx2=>sh (bF x2 [.int IntKind.u8 (IntKind.u8.wrap ((↑x0.toNat:Int)-48))]) λx3=>G a0 a1 a2 a4 (i64.wrap (a5+1))
def qt (G:Addr->Addr->ζ->Int->Int->M (Unit⊕Bool))(n:Nat)(a0 a1:Addr)(a2:ζ)(a3 a4:Int):M (Unit⊕Bool):=if decide (a4<a3) then sh (jx a2 a4) λx0=>if decide ((↑x0.toNat:Int)<48) then sh (bF a0 [.bool false,aT]) λx1=>AI (Sum.inr false) else sh (jx a2 a4) λx1=>if decide (57<(↑x1.toNat:Int)) then sh (bF a0 [.bool false,aT]) λx2=>AI (Sum.inr false) else n9 G n a0 a1 a2 a4 a3 a4 else AI (Sum.inl ())
def iO:Nat->Addr->Addr->ζ->Int->Int->M (Unit⊕Bool)|0=>λ_ _ _ _ _=>AS|n+1=>qt (iO n) n
theorem yB (n:Nat):iO (n+1)=qt (iO n) n:=rfl
def AD (n:Nat):=n9 (iO n) n
def jX (n:Nat)(a0 a1:Addr)(a2:ζ):M ((Bool×Sl)×Bool):=sh (vS none gU [.int IntKind.u8 0] (↑a2.size:Int) (↑a2.size:Int)) λx0=>sh (bF (a1.plus 1) [aH x0]) λx1=>sh (iO n a0 a1 a2 (↑a2.size:Int) 0) (cY (λx2=>sh (ar .sl (a1.plus 1)) λ(x3:Sl)=>sh (w5 n x3) λx4=>sh (bF (a1.plus 1) [aH x4]) λx5=>sh (aN [.bool,.sl] a1) λ(x6:Bool×Sl)=>sh (bF a0 [.bool x6.1,aH x6.2]) λx7=>sh (aN [.bool,.sl] a0) λ(x8:Bool×Sl)=>AI ((x8.1,x8.2),true)) (λx2=>sh (aN [.bool,.sl] a0) λ(x3:Bool×Sl)=>AI ((x3.1,x3.2),x2)))
def iP (n:Nat)(a0:ζ)(a1 a2:Addr)(a3:ζ):M ((Bool×Sl)×Bool):=if decide ((↑a3.size:Int)=0) then sh (bF a1 [.bool false,aT]) λx0=>sh (aN [.bool,.sl] a1) λ(x1:Bool×Sl)=>AI ((x1.1,x1.2),false) else if decide (400<(↑a3.size:Int)) then sh (bF a1 [.bool false,aT]) λx0=>sh (aN [.bool,.sl] a1) λ(x1:Bool×Sl)=>AI ((x1.1,x1.2),false) else sh (jx a3 0) λx0=>if decide ((↑x0.toNat:Int)=48) then if decide (1<(↑a0.size:Int)) then sh (bF a1 [.bool false,aT]) λx1=>sh (aN [.bool,.sl] a1) λ(x2:Bool×Sl)=>AI ((x2.1,x2.2),false) else jX n a1 a2 a3 else jX n a1 a2 a3
def oE (n:Nat)(a0:ζ):M ((Bool×Sl)×Bool):=sh (aM none aG [.bool false,aT]) λx0=>sh (aM none aG [.bool false,aT]) λx1=>sh (bF (an x1) [.bool false,aT]) λx2=>if decide (1<(↑a0.size:Int)) then sh (jx a0 0) λx3=>if decide ((↑x3.toNat:Int)=45) then sh (bF ((an x1).plus 0) [.bool true]) λx4=>sh (je a0 1 (↑a0.size:Int)) λx5=>iP n a0 (an x0) (an x1) x5 else iP n a0 (an x0) (an x1) a0 else iP n a0 (an x0) (an x1) a0
abbrev aaH (n:Nat):bB:=⟨37,[oS],[.agg [.bool,.sl],jT],λx=>oE n x⟩
abbrev I7:L2:=⟨[0,1,0,1,1,1,1,1,1],[(2,aJ),(4,aJ),(5,oS),(44,aC),(45,aC)],[],[(3,jT)],[3,6]++List.range' 45 27,0,.ret,λn=>υ5 (iO n)⟩
def U8 (i:Nat):Option (List (Nat×η)):=Κ i 14 (Ω [0,2,3,4,5,6,7,8,9,10,1,11,12]) none
abbrev R7 (n:Nat):List (gC (Unit⊕Bool)):=[⟨[1,1,0,0,1,1,0,0,1,0,1,1,1,1,1,1],[.au 1,.code [1,1,1,0,0,1,0,1,1,1,1,1,1]],[(2,aJ),(4,aJ),(5,oS),(6,aC),(44,aC),(45,aC)],υ6 (AD n)⟩]
abbrev acA (n:Nat):List (gC ((Bool×Sl)×Bool)):=[⟨[0,0,1,1,1,1],[.code [1,0,1,1,1,1],.code [1,1,1,1,1]],[(0,oS),(2,aJ),(4,aJ),(5,oS)],υ4 (iP n)⟩, ⟨[0,1,1,1,1,1],[.code [1,1,1,1,1,1]],[(2,aJ),(4,aJ),(5,oS)],υ3 (jX n)⟩]
theorem R8 (n:Nat):kZ TZp Tryz.f37 (I7.e n) I7.ws:=L2.ok Tryz.f37 I7 n C5 (dr:=U8) (jt:=R7) (hT:=λm _=>⟨.nil,K5 m,.nil,.nil,(.cc .nil)⟩)
theorem DP (n:Nat):aP TZp (aaH n):=bG Tryz.f37 (C5 n) (ll:=[I7.e n]) (dr:=U8) (js:=acA n) (hT:=⟨.nil,K5 n,.nil,(.cc (R8 n) .nil),(.cc (.cc .nil))⟩)
abbrev C6 (n:Nat):List bB:=aaH n::C5 n
theorem K6 (n:Nat):aI TZp (C6 n):=.cons (DP n) (K5 n)
def pc (n:Nat)(a0:ζ):M Bool:=sh (oE n a0) λx0=>sh (aM none aG [.bool false,aT]) λx1=>sh (bF (an x1) [.bool x0.1.1,aH x0.1.2]) λx2=>AI x0.2
abbrev aaI (n:Nat):bB:=⟨27,[oS],[jT],λx=>pc n x⟩
theorem Cy (n:Nat):aP TZp (aaI n):=bG Tryz.f27 (C6 n) (hT:=.m1 (K6 n))
abbrev C7 (n:Nat):List bB:=aaI n::C6 n
theorem K7 (n:Nat):aI TZp (C7 n):=.cons (Cy n) (K6 n)
def qu (G:Bool->Sl->Int->Addr->M (Sl×Int))(n:Nat)(a0:Bool)(a1:Sl)(a2:Int)(a3:Addr):M (Sl×Int):=if decide (0<(↑a1.len:Int)) then sh (aw a1 (i64.wrap ((↑a1.len:Int)-1)) 1) λx0=>sh (ar (.int IntKind.u8) x0) λ(x1:Int)=>if decide (x1=0) then sh (lu a1 0 (i64.wrap ((↑a1.len:Int)-1)) gU 1) λx2=>G a0 x2 (i64.wrap (a2+1)) a3 else AI (a1,a2) else AI (a1,a2)
def jY:Nat->Bool->Sl->Int->Addr->M (Sl×Int)|0=>λ_ _ _ _=>AS|n+1=>qu (jY n) n
theorem yC (n:Nat):jY (n+1)=qu (jY n) n:=rfl
def qv (G:Bool->Sl->Int->Addr->M Sl)(n:Nat)(a0:Bool)(a1:Sl)(a2:Int)(a3:Addr):M Sl:=if decide (0<(↑a1.len:Int)) then sh (aw a1 0 1) λx0=>sh (ar (.int IntKind.u8) x0) λ(x1:Int)=>if decide (x1=0) then sh (lu a1 1 (↑a1.len:Int) gU 1) λx2=>G a0 x2 a2 a3 else AI a1 else AI a1
def jZ:Nat->Bool->Sl->Int->Addr->M Sl|0=>λ_ _ _ _=>AS|n+1=>qv (jZ n) n
theorem yD (n:Nat):jZ (n+1)=qv (jZ n) n:=rfl
def tW (n:Nat)(a0:Bool)(a1:Sl)(a2:Int):M (Bool×Sl×Int):=sh (aM none bZ [.bool false,aT,vi 0]) λx0=>sh (jZ n a0 a1 a2 (an x0)) λx1=>sh (jY n a0 x1 a2 (an x0)) λx2=>if decide ((↑x2.1.len:Int)=0) then sh (bF (an x0) [.bool false,aT,vi 0]) λx3=>sh (aN [.bool,.sl,li] (an x0)) λ(x4:Bool×Sl×Int)=>AI (x4.1,x4.2.1,x4.2.2) else sh (vS none gU [.int IntKind.u8 0] (↑x2.1.len:Int) (↑x2.1.len:Int)) λx3=>sh (xB x3 x2.1 1) λx4=>sh (bF (an x0) [.bool a0,aH x3,vi x2.2]) λx5=>sh (aN [.bool,.sl,li] (an x0)) λ(x6:Bool×Sl×Int)=>AI (x6.1,x6.2.1,x6.2.2)
abbrev aaJ (n:Nat):bB:=⟨55,[jT,cN,aC],[.agg [.bool,.sl,.int .i64]],υ3 (tW n)⟩
abbrev I8:L1:=⟨[0,0,1],[(0,jT),(1,cN),(2,aC),(6,aJ)],[(1,cN)],[1]++List.range' 8 11,0,λn=>υ4 (jZ n)⟩
abbrev I9:L1:=⟨[0,0,1,1],[(0,jT),(1,cN),(2,aC),(6,aJ)],[(1,cN),(2,aC)],[1,2]++List.range' 19 19,2,λn=>υ4 (jY n)⟩
theorem R9 (n:Nat):kZ TZp Tryz.f55 (I9.e n) I9.ws:=L1.ok Tryz.f55 I9 n C7 (hT:=λm _=>.m1 (K7 m))
theorem Sa (n:Nat):kZ TZp Tryz.f55 (I8.e n) I8.ws:=L1.ok Tryz.f55 I8 n C7 (hT:=λm _=>.m1 (K7 m))
theorem DQ (n:Nat):aP TZp (aaJ n):=bG Tryz.f55 (C7 n) (ll:=[I8.e n,I9.e n]) (hT:=⟨.nil,K7 n,.nil,(.cc (Sa n) (.cc (R9 n) .nil)),.nil⟩)
abbrev C8 (n:Nat):List bB:=aaJ n::C7 n
theorem K8 (n:Nat):aI TZp (C8 n):=.cons (DQ n) (K7 n)
def pM (G:ζ->Sl->Int->Int->M Unit)(n:Nat)(a0:ζ)(a1:Sl)(a2 a3:Int):M Unit:=if decide (a3<a2) then sh (jx a0 a3) λx0=>sh (aw a1 a3 1) λx1=>sh (bF x1 [.int IntKind.u8 (IntKind.u8.wrap ((↑x0.toNat:Int)-48))]) λx2=>G a0 a1 a2 (i64.wrap (a3+1)) else AI ()
def jv:Nat->ζ->Sl->Int->Int->M Unit|0=>λ_ _ _ _=>AS|n+1=>pM (jv n) n
theorem xR (n:Nat):jv (n+1)=pM (jv n) n:=rfl
def sB (n:Nat)(a0:ζ):M Sl:=sh (vS none gU [.int IntKind.u8 0] (↑a0.size:Int) (↑a0.size:Int)) λx0=>sh (jv n a0 x0 (↑a0.size:Int) 0) λx1=>AI x0
abbrev aaK (n:Nat):bB:=⟨56,[oS],[cN],λx=>sB n x⟩
abbrev Ja:L1:=⟨[0,1,0,1,1],[(0,oS),(3,cN),(9,aC),(10,aC)],[],[4]++List.range' 10 11,0,λn=>υ4 (jv n)⟩
theorem Sb (n:Nat):kZ TZp Tryz.f56 (Ja.e n) Ja.ws:=L1.ok Tryz.f56 Ja n C8 (hT:=λm _=>.m1 (K8 m))
theorem Cz (n:Nat):aP TZp (aaK n):=bG Tryz.f56 (C8 n) (ll:=[Ja.e n]) (hT:=⟨.nil,K8 n,.nil,(.cc (Sb n) .nil),.nil⟩)
abbrev C9 (n:Nat):List bB:=aaK n::C8 n
theorem K9 (n:Nat):aI TZp (C9 n):=.cons (Cz n) (K8 n)
def nR (n:Nat)(a0:Bool×Sl×Int):M Int:=sh (aM none bZ [.bool a0.1,aH a0.2.1,vi a0.2.2]) λx0=>sh (ar .sl ((an x0).plus 1)) λ(x1:Sl)=>if decide (400<(↑x1.len:Int)) then AI 6 else sh (ar li ((an x0).plus 2)) λ(x2:Int)=>if decide (x2 < -2000) then AI 2 else sh (ar li ((an x0).plus 2)) λ(x3:Int)=>if decide (2000<x3) then AI 2 else AI 0
abbrev aaL (n:Nat):bB:=⟨57,[.agg [.bool,.sl,.int .i64]],[aC],λx=>nR n x⟩
theorem yE (n:Nat):aP TZp (aaL n):=bG Tryz.f57 (C9 n) (hT:=.m1 (K9 n))
abbrev C10 (n:Nat):List bB:=aaL n::C9 n
theorem K10 (n:Nat):aI TZp (C10 n):=.cons (yE n) (K9 n)
def oF (n:Nat)(a0:Bool×Sl×Int):M ζ:=sh (aM none bZ [.bool a0.1,aH a0.2.1,vi a0.2.2]) λx0=>sh (ar .bool ((an x0).plus 0)) λ(x1:Bool)=>if x1 then AI (ofBytes [45]) else AI (ofBytes [])
abbrev U9 (n:Nat):bB:=⟨119,[.agg [.bool,.sl,.int .i64]],[oS],λx=>oF n x⟩
theorem zK (n:Nat):aP TZp (U9 n):=bG Tryz.f119 (C10 n) (hT:=.m1 (K10 n))
abbrev C11 (n:Nat):List bB:=U9 n::C10 n
theorem K11 (n:Nat):aI TZp (C11 n):=.cons (zK n) (K10 n)
def lD (G:Sl->Sl->Int->Int->M Unit)(n:Nat)(a0 a1:Sl)(a2 a3:Int):M Unit:=if decide (a3<a2) then sh (aw a1 a3 1) λx0=>sh (ar (.int IntKind.u8) x0) λ(x1:Int)=>sh (aw a0 a3 1) λx2=>sh (bF x2 [.int IntKind.u8 (IntKind.u8.wrap (48+x1))]) λx3=>G a0 a1 a2 (i64.wrap (a3+1)) else AI ()
def fL:Nat->Sl->Sl->Int->Int->M Unit|0=>λ_ _ _ _=>AS|n+1=>lD (fL n) n
theorem uE (n:Nat):fL (n+1)=lD (fL n) n:=rfl
def mu (n:Nat)(a0:Bool×Sl×Int):M ζ:=sh (aM none bZ [.bool a0.1,aH a0.2.1,vi a0.2.2]) λx0=>sh (ar .sl ((an x0).plus 1)) λ(x1:Sl)=>sh (vS none gU [.int IntKind.u8 0] (↑x1.len:Int) (↑x1.len:Int)) λx2=>sh (ar .sl ((an x0).plus 1)) λ(x3:Sl)=>sh (fL n x2 x3 (↑x3.len:Int) 0) λx4=>sh (strOf x2) λx5=>AI x5
abbrev Va (n:Nat):bB:=⟨120,[.agg [.bool,.sl,.int .i64]],[oS],λx=>mu n x⟩
abbrev Eh:L1:=⟨[0,1,0,1,1],[(3,cN),(11,cN),(12,aC),(13,aC)],[],[4,5]++List.range' 13 11,0,λn=>υ4 (fL n)⟩
theorem NZ (n:Nat):kZ TZp Tryz.f120 (Eh.e n) Eh.ws:=L1.ok Tryz.f120 Eh n C11 (hT:=λm _=>.m1 (K11 m))
theorem xS (n:Nat):aP TZp (Va n):=bG Tryz.f120 (C11 n) (ll:=[Eh.e n]) (hT:=⟨.nil,K11 n,.nil,(.cc (NZ n) .nil),.nil⟩)
abbrev C12 (n:Nat):List bB:=Va n::C11 n
theorem K12 (n:Nat):aI TZp (C12 n):=.cons (xS n) (K11 n)
def oG (n:Nat)(a0:Bool×Sl×Int):M ζ:=sh (aM none bZ [.bool a0.1,aH a0.2.1,vi a0.2.2]) λx0=>sh (ar .sl ((an x0).plus 1)) λ(x1:Sl)=>if decide ((↑x1.len:Int)=0) then AI (ofBytes [48]) else sh (aN [.bool,.sl,li] (an x0)) λ(x2:Bool×Sl×Int)=>sh (aN [.bool,.sl,li] (an x0)) λ(x3:Bool×Sl×Int)=>sh (mY [some (an x0)] (oF n (x2.1,x2.2.1,x2.2.2))) λx4=>sh (mu n (x3.1,x3.2.1,x3.2.2)) λx5=>sh (kA x4 x5) λx6=>AI x6
abbrev aaM (n:Nat):bB:=⟨86,[.agg [.bool,.sl,.int .i64]],[oS],λx=>oG n x⟩
def acB (i:Nat):Option (List (Nat×η)):=Κ i 3 (Ω [0,2]++[(1,[2])]++Ω [3,4,5]) none
theorem zL (n:Nat):aP TZp (aaM n):=bG Tryz.f86 (C12 n) (dr:=acB) (hT:=.m1 (K12 n))
abbrev C13 (n:Nat):List bB:=aaM n::C12 n
theorem K13 (n:Nat):aI TZp (C13 n):=.cons (zL n) (K12 n)
def oH (n:Nat)(a0:Bool×Sl×Int):M ζ:=sh (aM none bZ [.bool a0.1,aH a0.2.1,vi a0.2.2]) λx0=>sh (aN [.bool,.sl,li] (an x0)) λ(x1:Bool×Sl×Int)=>sh (ar li ((an x0).plus 2)) λ(x2:Int)=>sh (mY [some ((an x0).plus 2)] (oG n (x1.1,x1.2.1,x1.2.2))) λx3=>sh (kA x3 (ofBytes [101])) λx4=>sh (strconv_Itoa n x2) λx5=>sh (kA x4 x5) λx6=>AI x6
abbrev aaN (n:Nat):bB:=⟨58,[.agg [.bool,.sl,.int .i64]],[oS],λx=>oH n x⟩
def acC (i:Nat):Option (List (Nat×η)):=Κ i 1 (Ω [3,0,4]++[(1,[4])]++Ω [2,5,6,7]) none
theorem zM (n:Nat):aP TZp (aaN n):=bG Tryz.f58 (C13 n) (dr:=acC) (hT:=.m1 (K13 n))
abbrev C14 (n:Nat):List bB:=aaN n::C13 n
theorem K14 (n:Nat):aI TZp (C14 n):=.cons (zM n) (K13 n)
def py (n:Nat)(a0:ζ)(a1:Addr)(a2:Int):M ((Bool×Sl×Int)×Bool):=sh (je a0 (i64.wrap (a2+1)) (↑a0.size:Int)) λx0=>sh (strconv_Atoi n x0) λx1=>sh (kM x1.2) λx2=>if !x2 then sh (bF a1 [.bool false,aT,vi 0]) λx3=>sh (aN [.bool,.sl,li] a1) λ(x4:Bool×Sl×Int)=>AI ((x4.1,x4.2.1,x4.2.2),false) else sh (je a0 0 a2) λx3=>sh (strings_TrimPrefix n x3 (ofBytes [45])) λx4=>sh (eC 9) λx5=>sh (jx a0 0) λx6=>sh (aM (some (x5+7)) bZ [.bool false,aT,vi 0]) λx7=>sh (mY [none] (B7 (x5+7) (sB n x4))) λx8=>sh (mY [none] (B7 (x5+7) (tW n (decide ((↑x6.toNat:Int)=45)) x8 x1.1))) λx9=>sh (bF (an x7) [.bool x9.1,aH x9.2.1,vi x9.2.2]) λx10=>sh (aN [.bool,.sl,li] (an x7)) λ(x11:Bool×Sl×Int)=>sh (aN [.bool,.sl,li] (an x7)) λ(x12:Bool×Sl×Int)=>sh (mY [some (an x7)] (nR n (x12.1,x12.2.1,x12.2.2))) λx13=>if decide (x13=0) then sh (aN [.bool,.sl,li] (an x7)) λ(iY:Bool×Sl×Int)=>sh (mY [some (an x7)] (oH n (iY.1,iY.2.1,iY.2.2))) λx15=>sh (bF a1 [.bool x11.1,aH x11.2.1,vi x11.2.2]) λpT=>sh (aN [.bool,.sl,li] a1) λ(x17:Bool×Sl×Int)=>AI ((x17.1,x17.2.1,x17.2.2),mX x15 a0) else sh (bF a1 [.bool x11.1,aH x11.2.1,vi x11.2.2]) λiY=>sh (aN [.bool,.sl,li] a1) λ(x15:Bool×Sl×Int)=>AI ((x15.1,x15.2.1,x15.2.2),false)
def oI (n:Nat)(a0:ζ):M ((Bool×Sl×Int)×Bool):=sh (aM none bZ [.bool false,aT,vi 0]) λx0=>sh (strings_IndexByte n a0 101) λx1=>if decide (x1<0) then sh (bF (an x0) [.bool false,aT,vi 0]) λx2=>sh (aN [.bool,.sl,li] (an x0)) λ(x3:Bool×Sl×Int)=>AI ((x3.1,x3.2.1,x3.2.2),false) else sh (je a0 0 x1) λx2=>sh (pc n x2) λx3=>if !x3 then sh (bF (an x0) [.bool false,aT,vi 0]) λx4=>sh (aN [.bool,.sl,li] (an x0)) λ(x5:Bool×Sl×Int)=>AI ((x5.1,x5.2.1,x5.2.2),false) else if decide (6<i64.wrap ((↑a0.size:Int)-x1)) then sh (bF (an x0) [.bool false,aT,vi 0]) λx4=>sh (aN [.bool,.sl,li] (an x0)) λ(x5:Bool×Sl×Int)=>AI ((x5.1,x5.2.1,x5.2.2),false) else py n a0 (an x0) x1
abbrev aaO (n:Nat):bB:=⟨38,[oS],[.agg [.bool,.sl,.int .i64],jT],λx=>oI n x⟩
def acD (i:Nat):Option (List (Nat×η)):=Κ i 8 (Ω [0,1,2,3,5,7]++[(4,[7]),(6,[7])]++Ω [8]) (Κ i 9 (Ω [0,1]++[(2,[0])]++Ω [3,4,7,5]++[(6,[0])]++Ω [8,9,10,11]) none)
abbrev acE (n:Nat):List (gC ((Bool×Sl×Int)×Bool)):=[⟨[0,1,1,1],[.code [1,1,1,1]],[(0,oS),(2,aJ),(4,aC)],υ3 (py n)⟩]
theorem DR (n:Nat):aP TZp (aaO n):=bG Tryz.f38 (C14 n) (dr:=acD) (js:=acE n) (hT:=⟨.nil,K14 n,.nil,.nil,(.cc .nil)⟩)
abbrev C15 (n:Nat):List bB:=aaO n::C14 n
theorem K15 (n:Nat):aI TZp (C15 n):=.cons (DR n) (K14 n)
def sC (n:Nat)(a0:ζ):M Bool:=sh (oI n a0) λx0=>sh (aM none bZ [.bool false,aT,vi 0]) λx1=>sh (bF (an x1) [.bool x0.1.1,aH x0.1.2.1,vi x0.1.2.2]) λx2=>AI x0.2
abbrev aaP (n:Nat):bB:=⟨28,[oS],[jT],λx=>sC n x⟩
theorem CA (n:Nat):aP TZp (aaP n):=bG Tryz.f28 (C15 n) (hT:=.m1 (K15 n))
abbrev C16 (n:Nat):List bB:=aaP n::C15 n
theorem K16 (n:Nat):aI TZp (C16 n):=.cons (CA n) (K15 n)
def FN (n:Nat):M (Nat):=sh (cZ n 9221120237041090561) λx0=>AI x0
abbrev aaQ (n:Nat):bB:=⟨60,[],[.one (.f64)],λ_=>FN n⟩
theorem Mi (n:Nat):aP TZp (aaQ n):=bG Tryz.f60 (C16 n) (hT:=.m1 (K16 n))
abbrev C17 (n:Nat):List bB:=aaQ n::C16 n
theorem K17 (n:Nat):aI TZp (C17 n):=.cons (Mi n) (K16 n)
def yF (n:Nat)(a0:Int):M (Nat):=if decide (0<=a0) then sh (cZ n 9218868437227405312) λx0=>AI x0 else sh (cZ n 18442240474082181120) λx0=>AI x0
abbrev aaR (n:Nat):bB:=⟨61,[aC],[.one (.f64)],λx=>yF n x⟩
theorem Mj (n:Nat):aP TZp (aaR n):=bG Tryz.f61 (C17 n) (hT:=.m1 (K17 n))
abbrev C18 (n:Nat):List bB:=aaR n::C17 n
theorem K18 (n:Nat):aI TZp (C18 n):=.cons (Mj n) (K17 n)
def qw (n:Nat)(a0 a1:ζ):M (ζ×ζ×Bool):=sh (ja n a0 a1) λx0=>if decide (0<=x0) then sh (je a0 0 x0) λx1=>sh (je a0 (i64.wrap (x0+(↑a1.size:Int))) (↑a0.size:Int)) λx2=>AI (x1,x2,true) else AI (a0,(ofBytes []),false)
abbrev aaS (n:Nat):bB:=⟨90,[oS,oS],[oS,oS,jT],υ2 (qw n)⟩
def acF (i:Nat):Option (List (Nat×η)):=Κ i 3 (Ω [0,1,2,3,4,5,6,7,8,9,10,11]) none
theorem yG (n:Nat):aP TZp (aaS n):=bG Tryz.f90 (C18 n) (dr:=acF) (hT:=.m1 (K18 n))
abbrev C19 (n:Nat):List bB:=aaS n::C18 n
theorem K19 (n:Nat):aI TZp (C19 n):=.cons (yG n) (K18 n)
def strings_Cut (n:Nat)(a0 a1:ζ):M (ζ×ζ×Bool):=sh (qw n a0 a1) λx0=>AI (x0.1,x0.2.1,x0.2.2)
abbrev aaT (n:Nat):bB:=⟨62,[oS,oS],[oS,oS,jT],υ2 (strings_Cut n)⟩
theorem FO (n:Nat):aP TZp (aaT n):=bG Tryz.f62 (C19 n) (hT:=.m1 (K19 n))
abbrev C20 (n:Nat):List bB:=aaT n::C19 n
theorem K20 (n:Nat):aI TZp (C20 n):=.cons (FO n) (K19 n)
def oa (n:Nat)(a0 a1:Int):M Bool:=sh (fQ n a0) λx0=>sh (oq (decide (2≠0))) λx1=>if decide (a0.tmod 2=1) then if decide (x0<=53) then if decide (-1074<=a1) then if decide (a1<=1023) then AI (decide (i64.wrap (a1+x0)<=1024)) else AI false else AI false else AI false else AI false
abbrev aaU (n:Nat):bB:=⟨64,[.one (.int .u64),aC],[jT],υ2 (oa n)⟩
theorem FP (n:Nat):aP TZp (aaU n):=bG Tryz.f64 (C20 n) (hT:=.m1 (K20 n))
abbrev C21 (n:Nat):List bB:=aaU n::C20 n
theorem K21 (n:Nat):aI TZp (C21 n):=.cons (FP n) (K20 n)
def ni (n a0 a1:Nat):M (Nat):=sh (fh n a0) λx0=>sh (fh n a1) λx1=>sh (cZ n (IntKind.u64.wrap (↑(BitVec.ofInt 64 (IntKind.u64.wrap (↑(BitVec.ofInt 64 x0&&&~~~BitVec.ofInt 64 9223372036854775808).toNat:Int))|||BitVec.ofInt 64 (IntKind.u64.wrap (↑(BitVec.ofInt 64 x1&&&BitVec.ofInt 64 9223372036854775808).toNat:Int))).toNat:Int))) λx2=>AI x2
abbrev aaV (n:Nat):bB:=⟨67,[.one (.f64),.one (.f64)],[.one (.f64)],υ2 (ni n)⟩
theorem CB (n:Nat):aP TZp (aaV n):=bG Tryz.f67 (C21 n) (hT:=.m1 (K21 n))
abbrev C22 (n:Nat):List bB:=aaV n::C21 n
theorem K22 (n:Nat):aI TZp (C22 n):=.cons (CB n) (K21 n)
def yH (n a0:Nat):M (Nat):=sh (fh n a0) λx0=>sh (cZ n (IntKind.u64.wrap (↑(BitVec.ofInt 64 x0&&&~~~BitVec.ofInt 64 9223372036854775808).toNat:Int))) λx1=>AI x1
abbrev Vb (n:Nat):bB:=⟨127,[.one (.f64)],[.one (.f64)],λx=>yH n x⟩
theorem Mk (n:Nat):aP TZp (Vb n):=bG Tryz.f127 (C22 n) (hT:=.m1 (K22 n))
abbrev C23 (n:Nat):List bB:=Vb n::C22 n
theorem K23 (n:Nat):aI TZp (C23 n):=.cons (Mk n) (K22 n)
def w6 (n a0:Nat)(a1:Int):M Bool:=if decide (a1=0) then sh (yH n a0) λx0=>AI (XV x0 9218868437227405311) else if decide (a1<0) then AI (XV (ab6 a0) 9218868437227405311) else AI (XV a0 9218868437227405311)
abbrev aaW (n:Nat):bB:=⟨96,[.one (.f64),aC],[jT],υ2 (w6 n)⟩
theorem G7 (n:Nat):aP TZp (aaW n):=bG Tryz.f96 (C23 n) (hT:=.m1 (K23 n))
abbrev C24 (n:Nat):List bB:=aaW n::C23 n
theorem K24 (n:Nat):aI TZp (C24 n):=.cons (G7 n) (K23 n)
def FQ (n a0:Nat):M Bool:=AI !GR a0 a0
abbrev Vc (n:Nat):bB:=⟨125,[.one (.f64)],[jT],λx=>FQ n x⟩
theorem G8 (n:Nat):aP TZp (Vc n):=bG Tryz.f125 (C24 n) (hT:=.m1 (K24 n))
abbrev C25 (n:Nat):List bB:=Vc n::C24 n
theorem K25 (n:Nat):aI TZp (C25 n):=.cons (G8 n) (K24 n)
def uF (n a0:Nat):M (Nat×Int):=sh (yH n a0) λx0=>if X6 x0 4503599627370496 then sh (KU a0 4841369599423283200) λx1=>AI (x1,-52) else AI (a0,0)
abbrev Ve (n:Nat):bB:=⟨126,[.one (.f64)],[.one (.f64),aC],λx=>uF n x⟩
theorem BA (n:Nat):aP TZp (Ve n):=bG Tryz.f126 (C25 n) (hT:=.m1 (K25 n))
abbrev C26 (n:Nat):List bB:=Ve n::C25 n
theorem K26 (n:Nat):aI TZp (C26 n):=.cons (BA n) (K25 n)
def sD (n:Nat)(a0 a1:Int)(a2:Nat):M (Nat):=sh (oq (decide (0<=52))) λx0=>sh (cZ n (IntKind.u64.wrap (↑(BitVec.ofInt 64 (IntKind.u64.wrap (↑(BitVec.ofInt 64 a1&&&~~~BitVec.ofInt 64 9218868437227405312).toNat:Int))|||BitVec.ofInt 64 (IntKind.u64.wrap (IntKind.u64.wrap (i64.wrap (a0+1023))*2^52))).toNat:Int))) λx1=>sh (KU a2 x1) λx2=>AI x2
def Ah (n a0:Nat)(a1:Int):M (Nat):=sh (uF n a0) λx0=>sh (fh n x0.1) λx1=>sh (oq (decide (0<=52))) λx2=>if decide (i64.wrap (i64.wrap (a1+x0.2)+i64.wrap (i64.wrap (↑(BitVec.ofInt 64 (i64.wrap (Int.fdiv x1 (2^52)))&&&BitVec.ofInt 64 2047).toNat:Int)-1023)) < -1075) then sh (ni n 0 x0.1) λx3=>AI x3 else if decide (1023<i64.wrap (i64.wrap (a1+x0.2)+i64.wrap (i64.wrap (↑(BitVec.ofInt 64 (i64.wrap (Int.fdiv x1 (2^52)))&&&BitVec.ofInt 64 2047).toNat:Int)-1023))) then if X6 x0.1 0 then sh (yF n (-1)) λx3=>AI x3 else sh (yF n 1) λx3=>AI x3 else if decide (i64.wrap (i64.wrap (a1+x0.2)+i64.wrap (i64.wrap (↑(BitVec.ofInt 64 (i64.wrap (Int.fdiv x1 (2^52)))&&&BitVec.ofInt 64 2047).toNat:Int)-1023)) < -1022) then sD n (i64.wrap (i64.wrap (i64.wrap (a1+x0.2)+i64.wrap (i64.wrap (↑(BitVec.ofInt 64 (i64.wrap (Int.fdiv x1 (2^52)))&&&BitVec.ofInt 64 2047).toNat:Int)-1023))+53)) x1 4368491638549381120 else sD n (i64.wrap (i64.wrap (a1+x0.2)+i64.wrap (i64.wrap (↑(BitVec.ofInt 64 (i64.wrap (Int.fdiv x1 (2^52)))&&&BitVec.ofInt 64 2047).toNat:Int)-1023))) x1 4607182418800017408
def FT (n a0:Nat)(a1:Int):M (Nat):=if GR a0 0 then AI a0 else sh (w6 n a0 0) λx0=>if x0 then AI a0 else sh (FQ n a0) λx1=>if x1 then AI a0 else Ah n a0 a1
abbrev aaX (n:Nat):bB:=⟨94,[.one (.f64),aC],[.one (.f64)],υ2 (FT n)⟩
abbrev acG (n:Nat):List (gC (Nat)):=[⟨[0,1,1],[.code [1,1,1]],[(0,.one (.f64)),(1,aC)],υ2 (Ah n)⟩, ⟨[0,1,1,1,1,1,1,1,1,1,1],[.code [1,1,1,1,1,1,1,1,1,1,1]],[(1,aC),(6,.one (.int .u64)),(7,.one (.f64))],υ3 (sD n)⟩]
theorem G9 (n:Nat):aP TZp (aaX n):=bG Tryz.f94 (C26 n) (js:=acG n) (hT:=⟨.nil,K26 n,.nil,.nil,(.cc (.cc .nil))⟩)
abbrev C27 (n:Nat):List bB:=aaX n::C26 n
theorem K27 (n:Nat):aI TZp (C27 n):=.cons (G9 n) (K26 n)
def AE (n a0:Nat)(a1:Int):M (Nat):=sh (FT n a0 a1) λx0=>AI x0
abbrev aaY (n:Nat):bB:=⟨65,[.one (.f64),aC],[.one (.f64)],υ2 (AE n)⟩
theorem Ha (n:Nat):aP TZp (aaY n):=bG Tryz.f65 (C27 n) (hT:=.m1 (K27 n))
abbrev C28 (n:Nat):List bB:=aaY n::C27 n
theorem K28 (n:Nat):aI TZp (C28 n):=.cons (Ha n) (K27 n)
def w7 (n a0:Nat):M Bool:=sh (fh n a0) λx0=>AI (decide (i64.wrap x0<0))
abbrev aaZ (n:Nat):bB:=⟨95,[.one (.f64)],[jT],λx=>w7 n x⟩
theorem DT (n:Nat):aP TZp (aaZ n):=bG Tryz.f95 (C28 n) (hT:=.m1 (K28 n))
abbrev C29 (n:Nat):List bB:=aaZ n::C28 n
theorem K29 (n:Nat):aI TZp (C29 n):=.cons (DT n) (K28 n)
def pz (n:Nat)(a0 a1:Int):M (Int×Int):=sh (cW n a0) λx0=>sh (oq (decide (0<=x0))) λx1=>AI (a0.fdiv (2^min (Int.toNat x0) 64),i64.wrap (i64.wrap (a1-1075)+x0))
def w8 (n a0:Nat):M (Int×Int):=sh (yH n a0) λx0=>sh (fh n x0) λx1=>sh (oq (decide (0<=52))) λx2=>if decide (i64.wrap (Int.fdiv x1 (2^52))=0) then pz n (IntKind.u64.wrap (↑(BitVec.ofInt 64 x1&&&BitVec.ofInt 64 4503599627370495).toNat:Int)) 1 else pz n (IntKind.u64.wrap (↑(BitVec.ofInt 64 (IntKind.u64.wrap (↑(BitVec.ofInt 64 x1&&&BitVec.ofInt 64 4503599627370495).toNat:Int))|||BitVec.ofInt 64 4503599627370496).toNat:Int)) (i64.wrap (Int.fdiv x1 (2^52)))
abbrev aa0 (n:Nat):bB:=⟨97,[.one (.f64)],[.one (.int .u64),aC],λx=>w8 n x⟩
abbrev acH (n:Nat):List (gC (Int×Int)):=[⟨[0,1,1,1,1],[.code [1,1,1,1,1]],[(5,.one (.int .u64)),(6,aC)],υ2 (pz n)⟩]
theorem DU (n:Nat):aP TZp (aa0 n):=bG Tryz.f97 (C29 n) (js:=acH n) (hT:=⟨.nil,K29 n,.nil,.nil,(.cc .nil)⟩)
abbrev C30 (n:Nat):List bB:=aa0 n::C29 n
theorem K30 (n:Nat):aI TZp (C30 n):=.cons (DU n) (K29 n)
def pN (n:Nat)(a0 a1:Int):M ζ:=sh (gj n a0 a1) λx0=>AI x0
abbrev aa1 (n:Nat):bB:=⟨98,[.one (.int .u64),aC],[oS],υ2 (pN n)⟩
theorem xU (n:Nat):aP TZp (aa1 n):=bG Tryz.f98 (C30 n) (hT:=.m1 (K30 n))
abbrev C31 (n:Nat):List bB:=aa1 n::C30 n
theorem K31 (n:Nat):aI TZp (C31 n):=.cons (xU n) (K30 n)
def qx (n a0:Nat)(a1:ζ):M ζ:=if !GR a0 a0 then AI (ofBytes [110,97,110]) else sh (w6 n a0 0) λx0=>if x0 then sh (kA a1 (ofBytes [105,110,102])) λx1=>AI x1 else if GR a0 0 then sh (kA a1 (ofBytes [48,112,48])) λx1=>AI x1 else sh (w8 n a0) λx1=>sh (pN n x1.1 10) λx2=>sh (kA a1 x2) λx3=>sh (kA x3 (ofBytes [112])) λx4=>sh (strconv_Itoa n x1.2) λx5=>sh (kA x4 x5) λx6=>AI x6
def yI (n a0:Nat):M ζ:=sh (w7 n a0) λx0=>if x0 then qx n a0 (ofBytes [45]) else qx n a0 (ofBytes [])
abbrev aa2 (n:Nat):bB:=⟨66,[.one (.f64)],[oS],λx=>yI n x⟩
abbrev acI (n:Nat):List (gC ζ):=[⟨[0,0,0,1,1,1],[.code [1,0,0,1,1,1],.au 0,.code [1,1,1,1]],[(0,.one (.f64)),(3,oS)],υ2 (qx n)⟩]
theorem FU (n:Nat):aP TZp (aa2 n):=bG Tryz.f66 (C31 n) (js:=acI n) (hT:=⟨.nil,K31 n,.nil,.nil,(.cc .nil)⟩)
abbrev C32 (n:Nat):List bB:=aa2 n::C31 n
theorem K32 (n:Nat):aI TZp (C32 n):=.cons (FU n) (K31 n)
def iQ (n:Nat)(a0:ζ)(a1:Bool)(a2 a3:Int):M (Nat×Bool):=sh (AE n (T8 a2) a3) λx0=>sh (yI n x0) λx1=>if !mX x1 a0 then AI (0,false) else if a1 then sh (ni n x0 13830554455654793216) λx2=>AI (x2,true) else AI (x0,true)
def mw (n:Nat)(a0:ζ):M (Nat×Bool):=sh (strings_CutPrefix n a0 (ofBytes [45])) λx0=>if mX a0 (ofBytes [110,97,110]) then sh (FN n) λx1=>AI (x1,true) else if mX x0.1 (ofBytes [105,110,102]) then sh (yF n 1) λx1=>if x0.2 then sh (ni n x1 13830554455654793216) λx2=>AI (x2,true) else AI (x1,true) else if mX x0.1 (ofBytes [48,112,48]) then if x0.2 then sh (ni n 0 13830554455654793216) λx1=>AI (x1,true) else AI (0,true) else sh (strings_Cut n x0.1 (ofBytes [112])) λx1=>sh (fG n x1.1 10 64) λx2=>sh (strconv_Atoi n x1.2.1) λx3=>if !x1.2.2 then AI (0,false) else sh (kM x2.2) λx4=>if !x4 then AI (0,false) else sh (kM x3.2) λx5=>if !x5 then AI (0,false) else sh (oa n x2.1 x3.1) λx6=>if !x6 then AI (0,false) else iQ n x0.1 x0.2 x2.1 x3.1
abbrev aa3 (n:Nat):bB:=⟨39,[oS],[.one (.f64),jT],λx=>mw n x⟩
abbrev acJ (n:Nat):List (gC (Nat×Bool)):=[⟨[0,1,1,1,1,1,1,1,1,1,1,0,0,1,1,1],[.code [1,1,1,1,1,1,1,1,1,1,1,0,0,1,1,1],.au 0,.code [1,1,1,1]],[(4,oS),(5,jT),(10,.one (.int .u64)),(12,aC)],υ4 (iQ n)⟩]
theorem DV (n:Nat):aP TZp (aa3 n):=bG Tryz.f39 (C32 n) (js:=acJ n) (hT:=⟨.nil,K32 n,.nil,.nil,(.cc .nil)⟩)
abbrev C33 (n:Nat):List bB:=aa3 n::C32 n
theorem K33 (n:Nat):aI TZp (C33 n):=.cons (DV n) (K32 n)
def qy (n:Nat)(a0:ζ):M Bool:=sh (mw n a0) λx0=>AI x0.2
abbrev aa4 (n:Nat):bB:=⟨29,[oS],[jT],λx=>qy n x⟩
theorem DW (n:Nat):aP TZp (aa4 n):=bG Tryz.f29 (C33 n) (hT:=.m1 (K33 n))
abbrev C34 (n:Nat):List bB:=aa4 n::C33 n
theorem K34 (n:Nat):aI TZp (C34 n):=.cons (DW n) (K33 n)
def mz (G:Addr->Addr->Int->Int->Int->M (Int⊕(Int×Bool)))(n:Nat)(a0 a1:Addr)(a2 a3 a4:Int):M (Int⊕(Int×Bool)):=sh (ar .str a1) λ(x0:ζ)=>sh (ar li a0) λ(x1:Int)=>sh (jx x0 x1) λx2=>sh (ar li a0) λ(x3:Int)=>sh (bF a0 [vi (i64.wrap (x3+1))]) λx4=>G a0 a1 (i64.wrap (i64.wrap (10*a2)+i64.wrap (IntKind.u8.wrap ((↑x2.toNat:Int)-48)))) a3 (i64.wrap (a4+1))
def jb (G:Addr->Addr->Int->Int->Int->M (Int⊕(Int×Bool)))(n:Nat)(a0 a1:Addr)(a2 a3 a4:Int):M (Int⊕(Int×Bool)):=if decide (a4<a3) then sh (ar li a0) λ(x0:Int)=>sh (ar .str a1) λ(x1:ζ)=>if decide ((↑(ByteArray.size x1):Int)<=x0) then AI (Sum.inr (0,false)) else sh (ar .str a1) λ(x2:ζ)=>sh (ar li a0) λ(x3:Int)=>sh (jx x2 x3) λx4=>if decide ((↑x4.toNat:Int)<48) then AI (Sum.inr (0,false)) else sh (ar .str a1) λ(x5:ζ)=>sh (ar li a0) λ(x6:Int)=>sh (jx x5 x6) λx7=>if decide (57<(↑x7.toNat:Int)) then AI (Sum.inr (0,false)) else mz G n a0 a1 a2 a3 a4 else AI (Sum.inl a2)
def gJ:Nat->Addr->Addr->Int->Int->Int->M (Int⊕(Int×Bool))|0=>λ_ _ _ _ _=>AS|n+1=>jb (gJ n) n
def yJ (n:Nat):=mz (gJ n) n
def lE (n:Nat)(a0:Int)(a1 a2:Addr):M (Int×Bool):=sh (gJ n a1 a2 0 a0 0) (cY (λx0=>AI (x0,true)) (λx0=>AI (x0.1,x0.2)))
abbrev aa5 (n:Nat):bB:=⟨69,[aC,aJ,aJ],[aC,jT],υ3 (lE n)⟩
abbrev Jb:L2:=⟨[0,1,0,1,1],[(1,aJ),(2,aJ),(6,aC),(7,aC),(8,aC)],[(6,aC)],[(4,aC),(5,jT)],[4,5,6]++List.range' 8 29,0,.ret,λn=>υ5 (gJ n)⟩
abbrev Sd (n:Nat):List (gC (Int⊕(Int×Bool))):=[⟨[0,1,0,0,1,1,0,0,1,0,1,1],[.code [1,1,0,0,1,1,0,0,1,0,1,1],.au 1,.code [1,1,1,0,0,1,0,1,1]],[(1,aJ),(2,aJ),(6,aC),(7,aC),(8,aC)],υ5 (yJ n)⟩]
theorem Se (n:Nat):kZ TZp Tryz.f69 (Jb.e n) Jb.ws:=L2.ok Tryz.f69 Jb n C34 (jt:=Sd) (hT:=λm _=>⟨.nil,K34 m,.nil,.nil,(.cc .nil)⟩)
theorem vk (n:Nat):aP TZp (aa5 n):=bG Tryz.f69 (C34 n) (ll:=[Jb.e n]) (hT:=⟨.nil,K34 n,.nil,(.cc (Se n) .nil),.nil⟩)
abbrev C35 (n:Nat):List bB:=aa5 n::C34 n
theorem K35 (n:Nat):aI TZp (C35 n):=.cons (vk n) (K34 n)
def jB (n:Nat)(x:ξ)(a0:Int):M (Int×Bool):=if rh oB x then sh (pG [aJ,aJ] x) λ(c:Addr×Addr)=>lE n a0 c.1 c.2 else AS
def dQ (G:Sl->Int->Int->Addr->Addr->Addr->Int->Int->M (Unit⊕Bool))(n:Nat)(a0:Sl)(a1 a2:Int)(a3 a4 a5:Addr)(a6 a7 a8 a9:Int):M (Unit⊕Bool):=sh (ar .raw a5) λ(x0:ξ)=>sh (jB n x0 a7) λx1=>if !x1.2 then AI (Sum.inr false) else sh (aw a0 a6 1) λx2=>sh (bF x2 [vi x1.1]) λx3=>G a0 a1 a2 a3 a4 a5 a8 (i64.wrap (a9+1))
def jc (G:Sl->Int->Int->Addr->Addr->Addr->Int->Int->M (Unit⊕Bool))(n:Nat)(a0:Sl)(a1 a2:Int)(a3 a4 a5:Addr)(a6 a7:Int):M (Unit⊕Bool):=if decide (a7<a6) then if decide (0<a7) then sh (ar li a3) λ(x0:Int)=>sh (ar .str a4) λ(x1:ζ)=>if decide ((↑(ByteArray.size x1):Int)<=x0) then AI (Sum.inr false) else sh (ar .str a4) λ(x2:ζ)=>sh (ar li a3) λ(x3:Int)=>sh (jx x2 x3) λx4=>if !decide ((↑x4.toNat:Int)=a2) then AI (Sum.inr false) else sh (ar li a3) λ(x5:Int)=>sh (bF a3 [vi (i64.wrap (x5+1))]) λx6=>if decide (a7=0) then dQ G n a0 a1 a2 a3 a4 a5 a7 a1 a6 a7 else dQ G n a0 a1 a2 a3 a4 a5 a7 2 a6 a7 else if decide (a7=0) then dQ G n a0 a1 a2 a3 a4 a5 a7 a1 a6 a7 else dQ G n a0 a1 a2 a3 a4 a5 a7 2 a6 a7 else AI (Sum.inl ())
def fH:Nat->Sl->Int->Int->Addr->Addr->Addr->Int->Int->M (Unit⊕Bool)|0=>λ_ _ _ _ _ _ _ _=>AS|n+1=>jc (fH n) n
def yK (n:Nat):=dQ (fH n) n
def eO (n:Nat)(a0:Sl)(a1 a2:Int)(a3 a4 a5:Addr):M Bool:=sh (fH n a0 a1 a2 a3 a4 a5 (↑a0.len:Int) 0) (cY (λx0=>AI true) (λx0=>AI x0))
abbrev aa6 (n:Nat):bB:=⟨70,[cN,aC,.one (.int .u8),aJ,aJ,aJ],[jT],υ6 (eO n)⟩
abbrev Jc:L2:=⟨[0,1,0,1],[(0,cN),(1,aC),(2,.one (.int .u8)),(3,aJ),(4,aJ),(5,aJ),(15,aC),(16,aC)],[],[(9,jT)],List.range' 9 5++List.range' 16 34,0,.ret,λn=>υ8 (fH n)⟩
abbrev N0 (n:Nat):List jM:=[⟨38,[aC],[aC,jT],λx a=>jB n x a⟩]
abbrev Sf (n:Nat):List (gC (Unit⊕Bool)):=[⟨[0,1,1,1,1,0,0,1,1,0,0,1,0,1],[.code [1,1,1,1,1,0,0,1,1,0,0,1,0,1],.au 1,.code [1,1,1,0,0,1,0,1]],[(0,cN),(1,aC),(2,.one (.int .u8)),(3,aJ),(4,aJ),(5,aJ),(10,aC),(11,aC),(15,aC),(16,aC)],υ10 (yK n)⟩]
theorem Vf (n:Nat):pI TZp (N0 n):=.cons (dw (l:=[⟨69,[aJ,aJ],λa c=>lE n a c.1 c.2⟩]) (.cons (λa c=>aV (by kernel_rfl) ((vk n) (a,c.1,c.2))) .nil) (λx a=>by kernel_rfl)) .nil
theorem Si (n:Nat):kZ TZp Tryz.f70 (Jc.e n) Jc.ws:=L2.ok Tryz.f70 Jc n C35 (dt:=N0) (jt:=Sf) (hT:=λm _=>⟨.nil,K35 m,(Vf m),.nil,(.cc .nil)⟩)
theorem nS (n:Nat):aP TZp (aa6 n):=bG Tryz.f70 (C35 n) (dl:=N0 n) (ll:=[Jc.e n]) (hT:=⟨.nil,K35 n,(Vf n),(.cc (Si n) .nil),.nil⟩)
abbrev C36 (n:Nat):List bB:=aa6 n::C35 n
theorem K36 (n:Nat):aI TZp (C36 n):=.cons (nS n) (K35 n)
def rN (n:Nat)(x:ξ)(a0:Sl)(a1 a2:Int):M Bool:=if rh dG x then sh (pG [aJ,aJ,aJ] x) λ(c:Addr×Addr×Addr)=>eO n a0 a1 a2 c.1 c.2.1 c.2.2 else AS
def rO (n:Nat)(x:ξ)(a0:Sl)(a1 a2:Int):M Bool:=if rh dG x then sh (pG [aJ,aJ,aJ] x) λ(c:Addr×Addr×Addr)=>eO n a0 a1 a2 c.1 c.2.1 c.2.2 else AS
def kD (n:Nat)(x:ξ)(a0:Sl)(a1 a2:Int):M Bool:=if rh dG x then sh (pG [aJ,aJ,aJ] x) λ(c:Addr×Addr×Addr)=>eO n a0 a1 a2 c.1 c.2.1 c.2.2 else AS
def kE (G:Addr->Addr->Addr->Addr->ξ->Int->M Unit)(n:Nat)(a0 a1 a2 a3:Addr)(a4:ξ)(a5:Int):M Unit:=if decide (a5<9) then sh (ar li (a2.plus 9)) λ(x0:Int)=>sh (bF (a2.plus 9) [vi (i64.wrap (x0*10))]) λx1=>G a0 a1 a2 a3 a4 (i64.wrap (a5+1)) else AI ()
def j4:Nat->Addr->Addr->Addr->Addr->ξ->Int->M Unit|0=>λ_ _ _ _ _ _=>AS|n+1=>kE (j4 n) n
def oc (G:Addr->Addr->Addr->Addr->ξ->Int->M Int)(n:Nat)(a0 a1 a2 a3:Addr)(a4:ξ)(a5:Int):M Int:=sh (ar li (a2.plus 9)) λ(x0:Int)=>sh (ar .str a0) λ(x1:ζ)=>sh (ar li a3) λ(x2:Int)=>sh (jx x1 x2) λx3=>sh (bF (a2.plus 9) [vi (i64.wrap (i64.wrap (10*x0)+i64.wrap (IntKind.u8.wrap ((↑x3.toNat:Int)-48))))]) λx4=>sh (ar li a3) λ(x5:Int)=>sh (bF a3 [vi (i64.wrap (x5+1))]) λx6=>G a0 a1 a2 a3 a4 (i64.wrap (a5+1))
def kF (G:Addr->Addr->Addr->Addr->ξ->Int->M Int)(n:Nat)(a0 a1 a2 a3:Addr)(a4:ξ)(a5:Int):M Int:=if decide (a5<9) then sh (ar li a3) λ(x0:Int)=>sh (ar .str a0) λ(x1:ζ)=>if decide (x0<(↑(ByteArray.size x1):Int)) then sh (ar .str a0) λ(x2:ζ)=>sh (ar li a3) λ(x3:Int)=>sh (jx x2 x3) λx4=>if decide (48<=(↑x4.toNat:Int)) then sh (ar .str a0) λ(x5:ζ)=>sh (ar li a3) λ(x6:Int)=>sh (jx x5 x6) λx7=>if decide ((↑x7.toNat:Int)<=57) then oc G n a0 a1 a2 a3 a4 a5 else AI a5 else AI a5 else AI a5 else AI a5
def iR:Nat->Addr->Addr->Addr->Addr->ξ->Int->M Int|0=>λ_ _ _ _ _ _=>AS|n+1=>kF (iR n) n
def AF (n:Nat):=oc (iR n) n
def pA (n:Nat)(a0 a1 a2 a3:Addr)(a4:ξ):M ((J11)×Bool):=sh (ar .str a0) λ(x0:ζ)=>sh (ar li a3) λ(x1:Int)=>sh (jx x0 x1) λx2=>sh (bF (a2.plus 10) [.int IntKind.u8 (↑x2.toNat:Int)]) λx3=>sh (ar li a3) λ(x4:Int)=>sh (bF a3 [vi (i64.wrap (x4+1))]) λx5=>sh (ar (.int IntKind.u8) (a2.plus 10)) λ(x6:Int)=>if decide (x6=90) then sh (aN [li,li,li,li,li,li,li,li,li,li,.int IntKind.u8] a2) λ(x7:J11)=>sh (ar li a3) λ(x8:Int)=>sh (ar .str a0) λ(x9:ζ)=>sh (mY [some a3,some a0] (bF a1 [vi x7.1,vi x7.2.1,vi x7.2.2.1,vi x7.2.2.2.1,vi x7.2.2.2.2.1,vi x7.2.2.2.2.2.1,vi x7.2.2.2.2.2.2.1,vi x7.2.2.2.2.2.2.2.1,vi x7.2.2.2.2.2.2.2.2.1,vi x7.2.2.2.2.2.2.2.2.2.1,.int IntKind.u8 x7.2.2.2.2.2.2.2.2.2.2])) λx10=>sh (aN [li,li,li,li,li,li,li,li,li,li,.int IntKind.u8] a1) λ(x11:J11)=>AI ((x11.1,x11.2.1,x11.2.2.1,x11.2.2.2.1,x11.2.2.2.2.1,x11.2.2.2.2.2.1,x11.2.2.2.2.2.2.1,x11.2.2.2.2.2.2.2.1,x11.2.2.2.2.2.2.2.2.1,x11.2.2.2.2.2.2.2.2.2.1,x11.2.2.2.2.2.2.2.2.2.2),decide (x8=(↑(ByteArray.size x9):Int))) else sh (ar (.int IntKind.u8) (a2.plus 10)) λ(x7:Int)=>if !decide (x7=43) then sh (ar (.int IntKind.u8) (a2.plus 10)) λ(x8:Int)=>if !decide (x8=45) then sh (aN [li,li,li,li,li,li,li,li,li,li,.int IntKind.u8] a2) λ(x9:J11)=>sh (bF a1 [vi x9.1,vi x9.2.1,vi x9.2.2.1,vi x9.2.2.2.1,vi x9.2.2.2.2.1,vi x9.2.2.2.2.2.1,vi x9.2.2.2.2.2.2.1,vi x9.2.2.2.2.2.2.2.1,vi x9.2.2.2.2.2.2.2.2.1,vi x9.2.2.2.2.2.2.2.2.2.1,.int IntKind.u8 x9.2.2.2.2.2.2.2.2.2.2]) λx10=>sh (aN [li,li,li,li,li,li,li,li,li,li,.int IntKind.u8] a1) λ(x11:J11)=>AI ((x11.1,x11.2.1,x11.2.2.1,x11.2.2.2.1,x11.2.2.2.2.1,x11.2.2.2.2.2.1,x11.2.2.2.2.2.2.1,x11.2.2.2.2.2.2.2.1,x11.2.2.2.2.2.2.2.2.1,x11.2.2.2.2.2.2.2.2.2.1,x11.2.2.2.2.2.2.2.2.2.2),false) else sh (nB (a2.plus 1) 8 6 8 1) λx9=>sh (kD n a4 x9 2 58) λx10=>if !x10 then sh (aN [li,li,li,li,li,li,li,li,li,li,.int IntKind.u8] a2) λ(x11:J11)=>sh (bF a1 [vi x11.1,vi x11.2.1,vi x11.2.2.1,vi x11.2.2.2.1,vi x11.2.2.2.2.1,vi x11.2.2.2.2.2.1,vi x11.2.2.2.2.2.2.1,vi x11.2.2.2.2.2.2.2.1,vi x11.2.2.2.2.2.2.2.2.1,vi x11.2.2.2.2.2.2.2.2.2.1,.int IntKind.u8 x11.2.2.2.2.2.2.2.2.2.2]) λx12=>sh (aN [li,li,li,li,li,li,li,li,li,li,.int IntKind.u8] a1) λ(x13:J11)=>AI ((x13.1,x13.2.1,x13.2.2.1,x13.2.2.2.1,x13.2.2.2.2.1,x13.2.2.2.2.2.1,x13.2.2.2.2.2.2.1,x13.2.2.2.2.2.2.2.1,x13.2.2.2.2.2.2.2.2.1,x13.2.2.2.2.2.2.2.2.2.1,x13.2.2.2.2.2.2.2.2.2.2),false) else sh (aN [li,li,li,li,li,li,li,li,li,li,.int IntKind.u8] a2) λ(x11:J11)=>sh (ar li a3) λ(x12:Int)=>sh (ar .str a0) λ(x13:ζ)=>sh (mY [some a3,some a0] (bF a1 [vi x11.1,vi x11.2.1,vi x11.2.2.1,vi x11.2.2.2.1,vi x11.2.2.2.2.1,vi x11.2.2.2.2.2.1,vi x11.2.2.2.2.2.2.1,vi x11.2.2.2.2.2.2.2.1,vi x11.2.2.2.2.2.2.2.2.1,vi x11.2.2.2.2.2.2.2.2.2.1,.int IntKind.u8 x11.2.2.2.2.2.2.2.2.2.2])) λiY=>sh (aN [li,li,li,li,li,li,li,li,li,li,.int IntKind.u8] a1) λ(x15:J11)=>AI ((x15.1,x15.2.1,x15.2.2.1,x15.2.2.2.1,x15.2.2.2.2.1,x15.2.2.2.2.2.1,x15.2.2.2.2.2.2.1,x15.2.2.2.2.2.2.2.1,x15.2.2.2.2.2.2.2.2.1,x15.2.2.2.2.2.2.2.2.2.1,x15.2.2.2.2.2.2.2.2.2.2),decide (x12=(↑(ByteArray.size x13):Int))) else sh (nB (a2.plus 1) 8 6 8 1) λx8=>sh (kD n a4 x8 2 58) λx9=>if !x9 then sh (aN [li,li,li,li,li,li,li,li,li,li,.int IntKind.u8] a2) λ(x10:J11)=>sh (bF a1 [vi x10.1,vi x10.2.1,vi x10.2.2.1,vi x10.2.2.2.1,vi x10.2.2.2.2.1,vi x10.2.2.2.2.2.1,vi x10.2.2.2.2.2.2.1,vi x10.2.2.2.2.2.2.2.1,vi x10.2.2.2.2.2.2.2.2.1,vi x10.2.2.2.2.2.2.2.2.2.1,.int IntKind.u8 x10.2.2.2.2.2.2.2.2.2.2]) λx11=>sh (aN [li,li,li,li,li,li,li,li,li,li,.int IntKind.u8] a1) λ(x12:J11)=>AI ((x12.1,x12.2.1,x12.2.2.1,x12.2.2.2.1,x12.2.2.2.2.1,x12.2.2.2.2.2.1,x12.2.2.2.2.2.2.1,x12.2.2.2.2.2.2.2.1,x12.2.2.2.2.2.2.2.2.1,x12.2.2.2.2.2.2.2.2.2.1,x12.2.2.2.2.2.2.2.2.2.2),false) else sh (aN [li,li,li,li,li,li,li,li,li,li,.int IntKind.u8] a2) λ(x10:J11)=>sh (ar li a3) λ(x11:Int)=>sh (ar .str a0) λ(x12:ζ)=>sh (mY [some a3,some a0] (bF a1 [vi x10.1,vi x10.2.1,vi x10.2.2.1,vi x10.2.2.2.1,vi x10.2.2.2.2.1,vi x10.2.2.2.2.2.1,vi x10.2.2.2.2.2.2.1,vi x10.2.2.2.2.2.2.2.1,vi x10.2.2.2.2.2.2.2.2.1,vi x10.2.2.2.2.2.2.2.2.2.1,.int IntKind.u8 x10.2.2.2.2.2.2.2.2.2.2])) λx13=>sh (aN [li,li,li,li,li,li,li,li,li,li,.int IntKind.u8] a1) λ(iY:J11)=>AI ((iY.1,iY.2.1,iY.2.2.1,iY.2.2.2.1,iY.2.2.2.2.1,iY.2.2.2.2.2.1,iY.2.2.2.2.2.2.1,iY.2.2.2.2.2.2.2.1,iY.2.2.2.2.2.2.2.2.1,iY.2.2.2.2.2.2.2.2.2.1,iY.2.2.2.2.2.2.2.2.2.2),decide (x11=(↑(ByteArray.size x12):Int)))
def j5 (n:Nat)(a0 a1 a2 a3:Addr)(a4:ξ):M ((J11)×Bool):=sh (ar li a3) λ(x0:Int)=>sh (ar .str a0) λ(x1:ζ)=>if decide (x0<(↑(ByteArray.size x1):Int)) then sh (ar li (a2.plus 0)) λ(x2:Int)=>if decide (x2=3) then pA n a0 a1 a2 a3 a4 else sh (aN [li,li,li,li,li,li,li,li,li,li,.int IntKind.u8] a2) λ(x3:J11)=>sh (ar li a3) λ(x4:Int)=>sh (ar .str a0) λ(x5:ζ)=>sh (mY [some a3,some a0] (bF a1 [vi x3.1,vi x3.2.1,vi x3.2.2.1,vi x3.2.2.2.1,vi x3.2.2.2.2.1,vi x3.2.2.2.2.2.1,vi x3.2.2.2.2.2.2.1,vi x3.2.2.2.2.2.2.2.1,vi x3.2.2.2.2.2.2.2.2.1,vi x3.2.2.2.2.2.2.2.2.2.1,.int IntKind.u8 x3.2.2.2.2.2.2.2.2.2.2])) λx6=>sh (aN [li,li,li,li,li,li,li,li,li,li,.int IntKind.u8] a1) λ(x7:J11)=>AI ((x7.1,x7.2.1,x7.2.2.1,x7.2.2.2.1,x7.2.2.2.2.1,x7.2.2.2.2.2.1,x7.2.2.2.2.2.2.1,x7.2.2.2.2.2.2.2.1,x7.2.2.2.2.2.2.2.2.1,x7.2.2.2.2.2.2.2.2.2.1,x7.2.2.2.2.2.2.2.2.2.2),decide (x4=(↑(ByteArray.size x5):Int))) else sh (aN [li,li,li,li,li,li,li,li,li,li,.int IntKind.u8] a2) λ(x2:J11)=>sh (ar li a3) λ(x3:Int)=>sh (ar .str a0) λ(x4:ζ)=>sh (mY [some a3,some a0] (bF a1 [vi x2.1,vi x2.2.1,vi x2.2.2.1,vi x2.2.2.2.1,vi x2.2.2.2.2.1,vi x2.2.2.2.2.2.1,vi x2.2.2.2.2.2.2.1,vi x2.2.2.2.2.2.2.2.1,vi x2.2.2.2.2.2.2.2.2.1,vi x2.2.2.2.2.2.2.2.2.2.1,.int IntKind.u8 x2.2.2.2.2.2.2.2.2.2.2])) λx5=>sh (aN [li,li,li,li,li,li,li,li,li,li,.int IntKind.u8] a1) λ(x6:J11)=>AI ((x6.1,x6.2.1,x6.2.2.1,x6.2.2.2.1,x6.2.2.2.2.1,x6.2.2.2.2.2.1,x6.2.2.2.2.2.2.1,x6.2.2.2.2.2.2.2.1,x6.2.2.2.2.2.2.2.2.1,x6.2.2.2.2.2.2.2.2.2.1,x6.2.2.2.2.2.2.2.2.2.2),decide (x3=(↑(ByteArray.size x4):Int)))
def pB (n:Nat)(a0 a1 a2 a3:Addr)(a4:ξ):M ((J11)×Bool):=sh (ar li a3) λ(x0:Int)=>sh (bF a3 [vi (i64.wrap (x0+1))]) λx1=>sh (iR n a0 a1 a2 a3 a4 0) λx2=>if decide (x2=0) then sh (aN [li,li,li,li,li,li,li,li,li,li,.int IntKind.u8] a2) λ(x3:J11)=>sh (bF a1 [vi x3.1,vi x3.2.1,vi x3.2.2.1,vi x3.2.2.2.1,vi x3.2.2.2.2.1,vi x3.2.2.2.2.2.1,vi x3.2.2.2.2.2.2.1,vi x3.2.2.2.2.2.2.2.1,vi x3.2.2.2.2.2.2.2.2.1,vi x3.2.2.2.2.2.2.2.2.2.1,.int IntKind.u8 x3.2.2.2.2.2.2.2.2.2.2]) λx4=>sh (aN [li,li,li,li,li,li,li,li,li,li,.int IntKind.u8] a1) λ(x5:J11)=>AI ((x5.1,x5.2.1,x5.2.2.1,x5.2.2.2.1,x5.2.2.2.2.1,x5.2.2.2.2.2.1,x5.2.2.2.2.2.2.1,x5.2.2.2.2.2.2.2.1,x5.2.2.2.2.2.2.2.2.1,x5.2.2.2.2.2.2.2.2.2.1,x5.2.2.2.2.2.2.2.2.2.2),false) else sh (j4 n a0 a1 a2 a3 a4 x2) λx3=>j5 n a0 a1 a2 a3 a4
def fR (n:Nat)(a0 a1 a2 a3:Addr)(a4:ξ):M ((J11)×Bool):=sh (nB (a2.plus 1) 8 3 6 1) λx0=>sh (rO n a4 x0 2 58) λx1=>if !x1 then sh (aN [li,li,li,li,li,li,li,li,li,li,.int IntKind.u8] a2) λ(x2:J11)=>sh (bF a1 [vi x2.1,vi x2.2.1,vi x2.2.2.1,vi x2.2.2.2.1,vi x2.2.2.2.2.1,vi x2.2.2.2.2.2.1,vi x2.2.2.2.2.2.2.1,vi x2.2.2.2.2.2.2.2.1,vi x2.2.2.2.2.2.2.2.2.1,vi x2.2.2.2.2.2.2.2.2.2.1,.int IntKind.u8 x2.2.2.2.2.2.2.2.2.2.2]) λx3=>sh (aN [li,li,li,li,li,li,li,li,li,li,.int IntKind.u8] a1) λ(x4:J11)=>AI ((x4.1,x4.2.1,x4.2.2.1,x4.2.2.2.1,x4.2.2.2.2.1,x4.2.2.2.2.2.1,x4.2.2.2.2.2.2.1,x4.2.2.2.2.2.2.2.1,x4.2.2.2.2.2.2.2.2.1,x4.2.2.2.2.2.2.2.2.2.1,x4.2.2.2.2.2.2.2.2.2.2),false) else sh (ar li (a2.plus 0)) λ(x2:Int)=>sh (bF (a2.plus 0) [vi (i64.wrap (x2+2))]) λx3=>sh (ar li a3) λ(x4:Int)=>sh (ar .str a0) λ(x5:ζ)=>if decide (x4<(↑(ByteArray.size x5):Int)) then sh (ar .str a0) λ(x6:ζ)=>sh (ar li a3) λ(x7:Int)=>sh (jx x6 x7) λx8=>if decide ((↑x8.toNat:Int)=46) then pB n a0 a1 a2 a3 a4 else j5 n a0 a1 a2 a3 a4 else j5 n a0 a1 a2 a3 a4
def mQ (n:Nat)(a0 a1 a2 a3:Addr)(a4:ξ):M ((J11)×Bool):=sh (nB (a2.plus 1) 8 0 3 1) λx0=>sh (rN n a4 x0 4 45) λx1=>if !x1 then sh (aN [li,li,li,li,li,li,li,li,li,li,.int IntKind.u8] a2) λ(x2:J11)=>sh (bF a1 [vi x2.1,vi x2.2.1,vi x2.2.2.1,vi x2.2.2.2.1,vi x2.2.2.2.2.1,vi x2.2.2.2.2.2.1,vi x2.2.2.2.2.2.2.1,vi x2.2.2.2.2.2.2.2.1,vi x2.2.2.2.2.2.2.2.2.1,vi x2.2.2.2.2.2.2.2.2.2.1,.int IntKind.u8 x2.2.2.2.2.2.2.2.2.2.2]) λx3=>sh (aN [li,li,li,li,li,li,li,li,li,li,.int IntKind.u8] a1) λ(x4:J11)=>AI ((x4.1,x4.2.1,x4.2.2.1,x4.2.2.2.1,x4.2.2.2.2.1,x4.2.2.2.2.2.1,x4.2.2.2.2.2.2.1,x4.2.2.2.2.2.2.2.1,x4.2.2.2.2.2.2.2.2.1,x4.2.2.2.2.2.2.2.2.2.1,x4.2.2.2.2.2.2.2.2.2.2),false) else sh (bF (a2.plus 0) [vi 1]) λx2=>sh (ar li a3) λ(x3:Int)=>sh (ar .str a0) λ(x4:ζ)=>if decide (x3=(↑(ByteArray.size x4):Int)) then sh (aN [li,li,li,li,li,li,li,li,li,li,.int IntKind.u8] a2) λ(x5:J11)=>sh (bF a1 [vi x5.1,vi x5.2.1,vi x5.2.2.1,vi x5.2.2.2.1,vi x5.2.2.2.2.1,vi x5.2.2.2.2.2.1,vi x5.2.2.2.2.2.2.1,vi x5.2.2.2.2.2.2.2.1,vi x5.2.2.2.2.2.2.2.2.1,vi x5.2.2.2.2.2.2.2.2.2.1,.int IntKind.u8 x5.2.2.2.2.2.2.2.2.2.2]) λx6=>sh (aN [li,li,li,li,li,li,li,li,li,li,.int IntKind.u8] a1) λ(x7:J11)=>AI ((x7.1,x7.2.1,x7.2.2.1,x7.2.2.2.1,x7.2.2.2.2.1,x7.2.2.2.2.2.1,x7.2.2.2.2.2.2.1,x7.2.2.2.2.2.2.2.1,x7.2.2.2.2.2.2.2.2.1,x7.2.2.2.2.2.2.2.2.2.1,x7.2.2.2.2.2.2.2.2.2.2),true) else sh (ar .str a0) λ(x5:ζ)=>sh (ar li a3) λ(x6:Int)=>sh (jx x5 x6) λx7=>if !decide ((↑x7.toNat:Int)=84) then sh (ar .str a0) λ(x8:ζ)=>sh (ar li a3) λ(x9:Int)=>sh (jx x8 x9) λx10=>if !decide ((↑x10.toNat:Int)=32) then sh (aN [li,li,li,li,li,li,li,li,li,li,.int IntKind.u8] a2) λ(x11:J11)=>sh (bF a1 [vi x11.1,vi x11.2.1,vi x11.2.2.1,vi x11.2.2.2.1,vi x11.2.2.2.2.1,vi x11.2.2.2.2.2.1,vi x11.2.2.2.2.2.2.1,vi x11.2.2.2.2.2.2.2.1,vi x11.2.2.2.2.2.2.2.2.1,vi x11.2.2.2.2.2.2.2.2.2.1,.int IntKind.u8 x11.2.2.2.2.2.2.2.2.2.2]) λx12=>sh (aN [li,li,li,li,li,li,li,li,li,li,.int IntKind.u8] a1) λ(x13:J11)=>AI ((x13.1,x13.2.1,x13.2.2.1,x13.2.2.2.1,x13.2.2.2.2.1,x13.2.2.2.2.2.1,x13.2.2.2.2.2.2.1,x13.2.2.2.2.2.2.2.1,x13.2.2.2.2.2.2.2.2.1,x13.2.2.2.2.2.2.2.2.2.1,x13.2.2.2.2.2.2.2.2.2.2),false) else sh (ar li a3) λ(x11:Int)=>sh (bF a3 [vi (i64.wrap (x11+1))]) λx12=>fR n a0 a1 a2 a3 a4 else sh (ar li a3) λ(x8:Int)=>sh (bF a3 [vi (i64.wrap (x8+1))]) λx9=>fR n a0 a1 a2 a3 a4
def mA (n:Nat)(a0:ζ):M ((J11)×Bool):=sh (aM none dV [.string a0]) λx0=>sh (aM none bT [vi 0,vi 0,vi 0,vi 0,vi 0,vi 0,vi 0,vi 0,vi 0,vi 0,.int IntKind.u8 0]) λx1=>sh (aM none bT [vi 0,vi 0,vi 0,vi 0,vi 0,vi 0,vi 0,vi 0,vi 0,vi 0,.int IntKind.u8 0]) λx2=>sh (aM none av [vi 0]) λx3=>sh (bF (an x3) [vi 0]) λx4=>sh (aM none uD [Value.nilFunc]) λx5=>sh (bF (an x5) [.func (Fn.func oB) #[] #[.pointer (some (an x3)),.pointer (some (an x0))]]) λx6=>sh (ar .str (an x0)) λ(x7:ζ)=>if decide (2<(↑(ByteArray.size x7):Int)) then sh (ar .str (an x0)) λ(x8:ζ)=>sh (jx x8 2) λx9=>if !decide ((↑x9.toNat:Int)=58) then mQ n (an x0) (an x1) (an x2) (an x3) (Value.func (Fn.func dG) #[] #[.pointer (some (an x3)),.pointer (some (an x0)),.pointer (some (an x5))]) else fR n (an x0) (an x1) (an x2) (an x3) (Value.func (Fn.func dG) #[] #[.pointer (some (an x3)),.pointer (some (an x0)),.pointer (some (an x5))]) else fR n (an x0) (an x1) (an x2) (an x3) (Value.func (Fn.func dG) #[] #[.pointer (some (an x3)),.pointer (some (an x0)),.pointer (some (an x5))])
abbrev aa7 (n:Nat):bB:=⟨41,[oS],[.agg [.int .i64,.int .i64,.int .i64,.int .i64,.int .i64,.int .i64,.int .i64,.int .i64,.int .i64,.int .i64,.int .u8],jT],λx=>mA n x⟩
abbrev Jd:L1:=⟨[0,0,1,1,0,1,0,1,1,1,1,1,1,1,1],[(1,aJ),(2,aJ),(4,aJ),(5,aJ),(7,sQ),(8,aC)],[(8,aC)],[8]++List.range' 66 34,0,λn=>υ6 (iR n)⟩
abbrev Je:L1:=⟨[0,1,1,1,1,0,1,0,1,1,1,1,1,1,1,1],[(1,aJ),(2,aJ),(4,aJ),(5,aJ),(7,sQ),(8,aC)],[],[8]++List.range' 103 8,2,λn=>υ6 (j4 n)⟩
abbrev Jf (n:Nat):List jM:=[⟨19,[cN,aC,.one (.int .u8)],[jT],λx a=>rN n x a.1 a.2.1 a.2.2⟩, ⟨44,[cN,aC,.one (.int .u8)],[jT],λx a=>rO n x a.1 a.2.1 a.2.2⟩, ⟨143,[cN,aC,.one (.int .u8)],[jT],λx a=>kD n x a.1 a.2.1 a.2.2⟩]
def N4 (i:Nat):Option (List (Nat×η)):=Κ i 21 (Ω [0,1,2,3,4,5,6,7,8,9,10]) (Κ i 33 (Ω [0,1,2,3,4]++[(5,[1,2])]++Ω [6]) (Κ i 36 (Ω [0,1,2,3,4]++[(5,[1,2])]++Ω [6]) none))
abbrev Sj (n:Nat):List (gC Int):=[⟨[0,0,1,0,0,0,1,1,0,1,0,1,1,1,1,1,1,1,1],[.code [1,0,1,0,0,0,1,1,0,1,0,1,1,1,1,1,1,1,1],.au 1],[(1,aJ),(2,aJ),(4,aJ),(5,aJ),(7,sQ),(8,aC)],υ6 (AF n)⟩]
abbrev acK (n:Nat):List (gC ((J11)×Bool)):=[⟨[0,0,0,1,0,1,1,1,1,1],[.code [1,0,0,1,0,1,1,1,1,1],.code [1,0,1,0,1,1,1,1,1],.code [1,1,1,1,1,1]],[(1,aJ),(2,aJ),(4,aJ),(5,aJ),(7,sQ)],υ5 (mQ n)⟩, ⟨[0,0,1,1,1,1,1,1],[.code [1,0,1,1,1,1,1,1],.code [1,1,1,1,1,1,1]],[(1,aJ),(2,aJ),(4,aJ),(5,aJ),(7,sQ)],υ5 (fR n)⟩, ⟨[0,0,1,0,1,1,1,1,1,1,1,1],[.code [1,0,1,0,1,1,1,1,1,1,1,1],.code [1,1,1,1,1,1,1,1,1]],[(1,aJ),(2,aJ),(4,aJ),(5,aJ),(7,sQ)],υ5 (pB n)⟩, ⟨[0,0,1,1,1,1,1,1,1,1,1],[.code [1,0,1,1,1,1,1,1,1,1,1],.code [1,1,1,1,1,1,1,1,1,1]],[(1,aJ),(2,aJ),(4,aJ),(5,aJ),(7,sQ)],υ5 (j5 n)⟩, ⟨[0,0,1,0,1,1,1,1,1,1,1,1,1],[.code [1,0,1,0,1,1,1,1,1,1,1,1,1],.code [1,1,1,1,1,1,1,1,1,1]],[(1,aJ),(2,aJ),(4,aJ),(5,aJ),(7,sQ)],υ5 (pA n)⟩]
theorem N5 (n:Nat):pI TZp (Jf n):=.cons (dw (l:=[⟨70,[aJ,aJ,aJ],λa c=>eO n a.1 a.2.1 a.2.2 c.1 c.2.1 c.2.2⟩]) (.cons (λa c=>aV (by kernel_rfl) ((nS n) (a.1,a.2.1,a.2.2,c.1,c.2.1,c.2.2))) .nil) (λx a=>by kernel_rfl)) (.cons (dw (l:=[⟨70,[aJ,aJ,aJ],λa c=>eO n a.1 a.2.1 a.2.2 c.1 c.2.1 c.2.2⟩]) (.cons (λa c=>aV (by kernel_rfl) ((nS n) (a.1,a.2.1,a.2.2,c.1,c.2.1,c.2.2))) .nil) (λx a=>by kernel_rfl)) (.cons (dw (l:=[⟨70,[aJ,aJ,aJ],λa c=>eO n a.1 a.2.1 a.2.2 c.1 c.2.1 c.2.2⟩]) (.cons (λa c=>aV (by kernel_rfl) ((nS n) (a.1,a.2.1,a.2.2,c.1,c.2.1,c.2.2))) .nil) (λx a=>by kernel_rfl)) .nil))
theorem Sk (n:Nat):kZ TZp Tryz.f41 (Je.e n) Je.ws:=L1.ok Tryz.f41 Je n C36 (dt:=Jf) (dr:=N4) (hT:=λm _=>⟨.nil,K36 m,(N5 m),.nil,.nil⟩)
theorem Sn (n:Nat):kZ TZp Tryz.f41 (Jd.e n) Jd.ws:=L1.ok Tryz.f41 Jd n C36 (dt:=Jf) (dr:=N4) (jt:=Sj) (hT:=λm _=>⟨.nil,K36 m,(N5 m),.nil,(.cc .nil)⟩)
theorem DX (n:Nat):aP TZp (aa7 n):=bG Tryz.f41 (C36 n) (dl:=Jf n) (ll:=[Jd.e n,Je.e n]) (dr:=N4) (js:=acK n) (hT:=⟨.nil,K36 n,(N5 n),(.cc (Sn n) (.cc (Sk n) .nil)),(.cc (.cc (.cc (.cc (.cc .nil)))))⟩)
abbrev C37 (n:Nat):List bB:=aa7 n::C36 n
theorem K37 (n:Nat):aI TZp (C37 n):=.cons (DX n) (K36 n)
def w9 (n:Nat)(a0:Int):M Bool:=sh (oq (decide (4≠0))) λx0=>if decide (a0.tmod 4=0) then sh (oq (decide (100≠0))) λx1=>if !decide (a0.tmod 100=0) then AI true else sh (oq (decide (400≠0))) λx2=>AI (decide (a0.tmod 400=0)) else AI false
abbrev Vg (n:Nat):bB:=⟨130,[aC],[jT],λx=>w9 n x⟩
theorem Hb (n:Nat):aP TZp (Vg n):=bG Tryz.f130 (C37 n) (hT:=.m1 (K37 n))
abbrev C38 (n:Nat):List bB:=Vg n::C37 n
theorem K38 (n:Nat):aI TZp (C38 n):=.cons (Hb n) (K37 n)
def mB (n:Nat)(a0 a1:Int):M Int:=sh (aM none FM [vi 0,vi 0,vi 0,vi 0,vi 0,vi 0,vi 0,vi 0,vi 0,vi 0,vi 0,vi 0,vi 0]) λx0=>sh (bF (an x0) [vi 0,vi 31,vi 28,vi 31,vi 30,vi 31,vi 30,vi 31,vi 31,vi 30,vi 31,vi 30,vi 31]) λx1=>if decide (a1=2) then sh (w9 n a0) λx2=>if x2 then AI 29 else sh (oq (decide (0<=a1/\a1<(↑13:Int)))) λx3=>sh (ar li ((an x0).plus (a1.toNat*1))) λ(x4:Int)=>AI x4 else sh (oq (decide (0<=a1/\a1<(↑13:Int)))) λx2=>sh (ar li ((an x0).plus (a1.toNat*1))) λ(x3:Int)=>AI x3
abbrev Vh (n:Nat):bB:=⟨100,[aC,aC],[aC],υ2 (mB n)⟩
theorem DY (n:Nat):aP TZp (Vh n):=bG Tryz.f100 (C38 n) (hT:=.m1 (K38 n))
abbrev C39 (n:Nat):List bB:=Vh n::C38 n
theorem K39 (n:Nat):aI TZp (C39 n):=.cons (DY n) (K38 n)
def sR (n:Nat)(a0:Int):M Int:=sh (oq (decide (4≠0))) λx0=>sh (oq (decide (100≠0))) λx1=>sh (oq (decide (400≠0))) λx2=>AI (i64.wrap (i64.wrap (i64.wrap (i64.wrap (365*a0)+i64.wrap ((i64.wrap (a0+3)).tdiv 4))-i64.wrap ((i64.wrap (a0+99)).tdiv 100))+i64.wrap ((i64.wrap (a0+399)).tdiv 400)))
abbrev Vi (n:Nat):bB:=⟨101,[aC],[aC],λx=>sR n x⟩
theorem FV (n:Nat):aP TZp (Vi n):=bG Tryz.f101 (C39 n) (hT:=.m1 (K39 n))
abbrev C40 (n:Nat):List bB:=Vi n::C39 n
theorem K40 (n:Nat):aI TZp (C40 n):=.cons (FV n) (K39 n)
def mR (G:Int->Int->Int->Int->M Int)(n:Nat)(a0 a1 a2 a3:Int):M Int:=if decide (a3<a1) then sh (mB n a0 a3) λx0=>G a0 a1 (i64.wrap (a2+x0)) (i64.wrap (a3+1)) else AI a2
def ia:Nat->Int->Int->Int->Int->M Int|0=>λ_ _ _ _=>AS|n+1=>mR (ia n) n
theorem pO (n:Nat):ia (n+1)=mR (ia n) n:=rfl
def Ai (n:Nat)(a0 a1 a2:Int):M (Int×Int):=sh (sR n a0) λx0=>sh (ia n a0 a1 (i64.wrap (i64.wrap (i64.wrap (x0+a2)-1)-719528)) 1) λx1=>AI (x1,0)
def xa (n:Nat)(a0 a1 a2:Int):M (Int×Int):=if decide (a0<0) then AI (0,13) else if decide (9999<a0) then AI (0,13) else if decide (a1<1) then AI (0,13) else if decide (12<a1) then AI (0,13) else if decide (a2<1) then AI (0,13) else sh (mB n a0 a1) λx0=>if decide (x0<a2) then AI (0,13) else Ai n a0 a1 a2
abbrev aa8 (n:Nat):bB:=⟨71,[aC,aC,aC],[aC,aC],υ3 (xa n)⟩
abbrev Jg:L1:=⟨[0,1,0,1,1,1],[(0,aC),(1,aC),(8,aC),(9,aC)],[(8,aC)],[8,9]++List.range' 41 10,0,λn=>υ4 (ia n)⟩
abbrev acL (n:Nat):List (gC (Int×Int)):=[⟨[0,1,1],[.code [1,1,1]],[(0,aC),(1,aC),(2,aC)],υ3 (Ai n)⟩]
theorem So (n:Nat):kZ TZp Tryz.f71 (Jg.e n) Jg.ws:=L1.ok Tryz.f71 Jg n C40 (hT:=λm _=>.m1 (K40 m))
theorem Hc (n:Nat):aP TZp (aa8 n):=bG Tryz.f71 (C40 n) (ll:=[Jg.e n]) (js:=acL n) (hT:=⟨.nil,K40 n,.nil,(.cc (So n) .nil),(.cc .nil)⟩)
abbrev C41 (n:Nat):List bB:=aa8 n::C40 n
theorem K41 (n:Nat):aI TZp (C41 n):=.cons (Hc n) (K40 n)
def eP (G:Addr->(Int×Int×Int×Int×Int)->Int->M (Unit⊕Bool))(n:Nat)(a0:Addr)(a1:Int×Int×Int×Int×Int)(a2:Int):M (Unit⊕Bool):=if decide (a2<5) then sh (Ia li 5 [vi a1.1,vi a1.2.1,vi a1.2.2.1,vi a1.2.2.2.1,vi a1.2.2.2.2] a2) λx0=>sh (oq (decide (0<=i64.wrap (a2+3)/\i64.wrap (a2+3)<(↑8:Int)))) λx1=>sh (ar li ((a0.plus 1).plus ((i64.wrap (a2+3)).toNat*1))) λ(x2:Int)=>if decide (x0<x2) then AI (Sum.inr false) else G a0 (a1.1,a1.2.1,a1.2.2.1,a1.2.2.2.1,a1.2.2.2.2) (i64.wrap (a2+1)) else AI (Sum.inl ())
def dW:Nat->Addr->(Int×Int×Int×Int×Int)->Int->M (Unit⊕Bool)|0=>λ_ _ _=>AS|n+1=>eP (dW n) n
def fN (n:Nat)(a0:Addr):M Bool:=sh (aM none RV [vi 0,vi 0,vi 0,vi 0,vi 0]) λx0=>sh (bF (an x0) [vi 23,vi 59,vi 59,vi 23,vi 59]) λx1=>sh (aN [li,li,li,li,li] (an x0)) λ(x2:Int×Int×Int×Int×Int)=>sh (dW n a0 (x2.1,x2.2.1,x2.2.2.1,x2.2.2.2.1,x2.2.2.2.2) 0) (cY (λx3=>AI true) (λx3=>AI x3))
def hC (n:Nat)(a0:J11):M Bool:=sh (aM none bT [vi a0.1,vi a0.2.1,vi a0.2.2.1,vi a0.2.2.2.1,vi a0.2.2.2.2.1,vi a0.2.2.2.2.2.1,vi a0.2.2.2.2.2.2.1,vi a0.2.2.2.2.2.2.2.1,vi a0.2.2.2.2.2.2.2.2.1,vi a0.2.2.2.2.2.2.2.2.2.1,.int IntKind.u8 a0.2.2.2.2.2.2.2.2.2.2]) λx0=>sh (ar li ((an x0).plus 0)) λ(x1:Int)=>if !decide (x1=2) then sh (oq (decide (0<=0/\0<(↑8:Int)))) λx2=>sh (ar li (((an x0).plus 1).plus 0)) λ(x3:Int)=>sh (oq (decide (0<=1/\1<(↑8:Int)))) λx4=>sh (ar li (((an x0).plus 1).plus 1)) λ(x5:Int)=>sh (oq (decide (0<=2/\2<(↑8:Int)))) λx6=>sh (ar li (((an x0).plus 1).plus 2)) λ(x7:Int)=>sh (xa n x3 x5 x7) λx8=>if !decide (x8.2=0) then AI false else fN n (an x0) else fN n (an x0)
abbrev aa9 (n:Nat):bB:=⟨42,[.agg [.int .i64,.int .i64,.int .i64,.int .i64,.int .i64,.int .i64,.int .i64,.int .i64,.int .i64,.int .i64,.int .u8]],[jT],λx=>hC n x⟩
abbrev Jh:L2:=⟨[0,1,0,1,1,1],[(1,aJ),(27,.agg [.int .i64,.int .i64,.int .i64,.int .i64,.int .i64]),(28,aC)],[],[(2,jT)],[2,6,7]++List.range' 28 12,0,.ret,λn=>υ3 (dW n)⟩
abbrev acM (n:Nat):List (gC Bool):=[⟨[0,1,1],[.code [1,1,1]],[(1,aJ)],λx=>fN n x⟩]
theorem Sp (n:Nat):kZ TZp Tryz.f42 (Jh.e n) Jh.ws:=L2.ok Tryz.f42 Jh n C41 (hT:=λm _=>.m1 (K41 m))
theorem vH (n:Nat):aP TZp (aa9 n):=bG Tryz.f42 (C41 n) (ll:=[Jh.e n]) (js:=acM n) (hT:=⟨.nil,K41 n,.nil,(.cc (Sp n) .nil),(.cc .nil)⟩)
abbrev C42 (n:Nat):List bB:=aa9 n::C41 n
theorem K42 (n:Nat):aI TZp (C42 n):=.cons (vH n) (K41 n)
def pC (G:Int->Int->Int->M (Int×Int))(n:Nat)(a0 a1 a2:Int):M (Int×Int):=sh (mB n a1 a2) λx0=>if decide (x0<=a0) then sh (mB n a1 a2) λx1=>G (i64.wrap (a0-x1)) a1 (i64.wrap (a2+1)) else AI (a0,a2)
def jm:Nat->Int->Int->Int->M (Int×Int)|0=>λ_ _ _=>AS|n+1=>pC (jm n) n
theorem uG (n:Nat):jm (n+1)=pC (jm n) n:=rfl
def pD (G:Int->Int->M Int)(n:Nat)(a0 a1:Int):M Int:=sh (sR n (i64.wrap (a1+1))) λx0=>if decide (x0<=a0) then G a0 (i64.wrap (a1+1)) else AI a1
def jn:Nat->Int->Int->M Int|0=>λ_ _=>AS|n+1=>pD (jn n) n
theorem uH (n:Nat):jn (n+1)=pD (jn n) n:=rfl
def vI (n:Nat)(a0:Int):M (Int×Int×Int×Int):=sh (oq (decide (366≠0))) λx0=>sh (jn n (i64.wrap (a0+719528)) (i64.wrap ((i64.wrap (a0+719528)).tdiv 366))) λx1=>sh (sR n x1) λx2=>sh (jm n (i64.wrap (i64.wrap (a0+719528)-x2)) x1 1) λx3=>AI (x1,x3.2,i64.wrap (x3.1+1),0)
def AG (n:Nat)(a0:Int):M (Int×Int×Int×Int):=if decide (a0 < -719528) then AI (0,0,0,13) else if decide (2932896<a0) then AI (0,0,0,13) else vI n a0
abbrev aba (n:Nat):bB:=⟨72,[aC],[aC,aC,aC,aC],λx=>AG n x⟩
abbrev Ji:L1:=⟨[0,0,1,1,1,1],[(6,aC),(7,aC)],[(7,aC)],[7]++List.range' 19 7,0,λn=>υ2 (jn n)⟩
abbrev Jj:L1:=⟨[0,0,1,1,1,1,1,1,1],[(6,aC),(7,aC),(8,aC)],[(6,aC),(8,aC)],[6,8]++List.range' 30 12,2,λn=>υ3 (jm n)⟩
abbrev acN (n:Nat):List (gC (Int×Int×Int×Int)):=[⟨[0,1,1],[.code [1,1,1]],[(0,aC)],λx=>vI n x⟩]
theorem Sq (n:Nat):kZ TZp Tryz.f72 (Jj.e n) Jj.ws:=L1.ok Tryz.f72 Jj n C42 (hT:=λm _=>.m1 (K42 m))
theorem Sr (n:Nat):kZ TZp Tryz.f72 (Ji.e n) Ji.ws:=L1.ok Tryz.f72 Ji n C42 (hT:=λm _=>.m1 (K42 m))
theorem Hd (n:Nat):aP TZp (aba n):=bG Tryz.f72 (C42 n) (ll:=[Ji.e n,Jj.e n]) (js:=acN n) (hT:=⟨.nil,K42 n,.nil,(.cc (Sr n) (.cc (Sq n) .nil)),(.cc .nil)⟩)
abbrev C43 (n:Nat):List bB:=aba n::C42 n
theorem K43 (n:Nat):aI TZp (C43 n):=.cons (Hd n) (K42 n)
def jo (n:Nat)(a0 a1:Int):M ζ:=sh (strconv_Itoa n a0) λx0=>sh (strings_Repeat n (ofBytes [48]) (if 0<i64.wrap (a1-(↑(ByteArray.size x0):Int)) then i64.wrap (a1-(↑(ByteArray.size x0):Int)) else 0)) λx1=>sh (kA x1 x0) λx2=>AI x2
abbrev Vj (n:Nat):bB:=⟨102,[aC,aC],[oS],υ2 (jo n)⟩
theorem FW (n:Nat):aP TZp (Vj n):=bG Tryz.f102 (C43 n) (hT:=.m1 (K43 n))
abbrev C44 (n:Nat):List bB:=Vj n::C43 n
theorem K44 (n:Nat):aI TZp (C44 n):=.cons (FW n) (K43 n)
def gL (n:Nat)(a0:Addr)(a1:ζ):M ζ:=sh (ar li (a0.plus 9)) λ(x0:Int)=>if decide (0<x0) then sh (ar li (a0.plus 9)) λ(x1:Int)=>sh (jo n x1 9) λx2=>sh (gI n x2 (ofBytes [48])) λx3=>sh (kA (ofBytes [46]) x3) λx4=>sh (kA a1 x4) λx5=>AI x5 else AI a1
def dS (n:Nat)(a0:Addr)(a1:ζ):M ζ:=sh (ar li (a0.plus 0)) λ(x0:Int)=>if !decide (x0=1) then sh (oq (decide (0<=3/\3<(↑8:Int)))) λx1=>sh (oq (decide (0<=4/\4<(↑8:Int)))) λx2=>sh (oq (decide (0<=5/\5<(↑8:Int)))) λx3=>sh (ar li ((a0.plus 1).plus 3)) λ(x4:Int)=>sh (ar li ((a0.plus 1).plus 4)) λ(x5:Int)=>sh (ar li ((a0.plus 1).plus 5)) λ(x6:Int)=>sh (mY [some ((a0.plus 1).plus 4),some ((a0.plus 1).plus 5)] (jo n x4 2)) λx7=>sh (kA x7 (ofBytes [58])) λx8=>sh (mY [some ((a0.plus 1).plus 5)] (jo n x5 2)) λx9=>sh (kA x8 x9) λx10=>sh (kA x10 (ofBytes [58])) λx11=>sh (jo n x6 2) λx12=>sh (kA x11 x12) λx13=>sh (kA a1 x13) λiY=>gL n a0 iY else gL n a0 a1
def jd (n:Nat)(a0:J11):M ζ:=sh (aM none bT [vi a0.1,vi a0.2.1,vi a0.2.2.1,vi a0.2.2.2.1,vi a0.2.2.2.2.1,vi a0.2.2.2.2.2.1,vi a0.2.2.2.2.2.2.1,vi a0.2.2.2.2.2.2.2.1,vi a0.2.2.2.2.2.2.2.2.1,vi a0.2.2.2.2.2.2.2.2.2.1,.int IntKind.u8 a0.2.2.2.2.2.2.2.2.2.2]) λx0=>sh (ar li ((an x0).plus 0)) λ(x1:Int)=>if !decide (x1=2) then sh (oq (decide (0<=0/\0<(↑8:Int)))) λx2=>sh (oq (decide (0<=1/\1<(↑8:Int)))) λx3=>sh (oq (decide (0<=2/\2<(↑8:Int)))) λx4=>sh (ar li (((an x0).plus 1).plus 0)) λ(x5:Int)=>sh (ar li (((an x0).plus 1).plus 1)) λ(x6:Int)=>sh (ar li (((an x0).plus 1).plus 2)) λ(x7:Int)=>sh (mY [some (((an x0).plus 1).plus 1),some (((an x0).plus 1).plus 2)] (jo n x5 4)) λx8=>sh (kA x8 (ofBytes [45])) λx9=>sh (mY [some (((an x0).plus 1).plus 2)] (jo n x6 2)) λx10=>sh (kA x9 x10) λx11=>sh (kA x11 (ofBytes [45])) λx12=>sh (jo n x7 2) λx13=>sh (kA x12 x13) λiY=>sh (ar li ((an x0).plus 0)) λ(x15:Int)=>if decide (x15=3) then sh (kA iY (ofBytes [84])) λpT=>dS n (an x0) pT else dS n (an x0) iY else sh (ar li ((an x0).plus 0)) λ(x2:Int)=>if decide (x2=3) then sh (kA (ofBytes []) (ofBytes [84])) λx3=>dS n (an x0) x3 else dS n (an x0) (ofBytes [])
abbrev abb (n:Nat):bB:=⟨73,[.agg [.int .i64,.int .i64,.int .i64,.int .i64,.int .i64,.int .i64,.int .i64,.int .i64,.int .i64,.int .i64,.int .u8]],[oS],λx=>jd n x⟩
def acO (i:Nat):Option (List (Nat×η)):=Κ i 3 (Ω [0,1,5,6,11,12,2,7,13]++[(3,[7,13])]++Ω [4]++[(8,[13])]++Ω [9,10,14,15,16]) (Κ i 7 (Ω [0,1,2,6,7,12,13,3,8,14]++[(4,[8,14])]++Ω [5]++[(9,[14])]++Ω [10,11,15,16,17,18]) none)
abbrev acP (n:Nat):List (gC ζ):=[⟨[0,0,1,1,1,1],[.code [1,0,1,1,1,1],.code [1,1,1,1,1]],[(1,aJ),(3,oS)],υ2 (dS n)⟩, ⟨[0,0,1,1,1,1,1],[.code [1,0,1,1,1,1,1],.code [1,1,1,1,1,1]],[(1,aJ),(3,oS)],υ2 (gL n)⟩]
theorem xb (n:Nat):aP TZp (abb n):=bG Tryz.f73 (C44 n) (dr:=acO) (js:=acP n) (hT:=⟨.nil,K44 n,.nil,.nil,(.cc (.cc .nil))⟩)
abbrev C45 (n:Nat):List bB:=abb n::C44 n
theorem K45 (n:Nat):aI TZp (C45 n):=.cons (xb n) (K44 n)
def ij (n:Nat)(a0 a1 a2:Int):M (ζ×Int):=sh (AG n a1) λx0=>if !decide (x0.2.2.2=0) then AI ((ofBytes []),13) else sh (oq (decide (3600≠0))) λx1=>sh (oq (decide (60≠0))) λx2=>sh (oq (decide (60≠0))) λx3=>sh (oq (decide (60≠0))) λx4=>sh (aM none bT [vi 0,vi 0,vi 0,vi 0,vi 0,vi 0,vi 0,vi 0,vi 0,vi 0,.int IntKind.u8 0]) λx5=>sh (bF (an x5) [vi 3,vi x0.1,vi x0.2.1,vi x0.2.2.1,vi (i64.wrap (a2.tdiv 3600)),vi ((i64.wrap (a2.tdiv 60)).tmod 60),vi (a2.tmod 60),vi 0,vi 0,vi a0,.int IntKind.u8 0]) λx6=>sh (aN [li,li,li,li,li,li,li,li,li,li,.int IntKind.u8] (an x5)) λ(x7:J11)=>sh (jd n (x7.1,x7.2.1,x7.2.2.1,x7.2.2.2.1,x7.2.2.2.2.1,x7.2.2.2.2.2.1,x7.2.2.2.2.2.2.1,x7.2.2.2.2.2.2.2.1,x7.2.2.2.2.2.2.2.2.1,x7.2.2.2.2.2.2.2.2.2.1,x7.2.2.2.2.2.2.2.2.2.2)) λx8=>sh (kA x8 (ofBytes [90])) λx9=>AI (x9,0)
def od (n:Nat)(a0 a1:Int):M (ζ×Int):=sh (oq (decide (86400≠0))) λx0=>sh (oq (decide (86400≠0))) λx1=>if decide (a0.tmod 86400<0) then ij n a1 (i64.wrap (i64.wrap (a0.tdiv 86400)-1)) (i64.wrap (a0.tmod 86400+86400)) else ij n a1 (i64.wrap (a0.tdiv 86400)) (a0.tmod 86400)
def nT (n:Nat)(a0 a1:Int):M (ζ×Int):=if decide (a1<0) then AI ((ofBytes []),2) else if decide (999999999<a1) then AI ((ofBytes []),2) else if decide (a0 < -62167219200) then AI ((ofBytes []),13) else if decide (253402300800<=a0) then AI ((ofBytes []),13) else od n a0 a1
abbrev abc (n:Nat):bB:=⟨43,[aC,aC],[oS,aC],υ2 (nT n)⟩
abbrev acQ (n:Nat):List (gC (ζ×Int)):=[⟨[0,1,1,1],[.code [1,1,1,1]],[(0,aC),(1,aC)],υ2 (od n)⟩, ⟨[0,1,1,1,1,1],[.code [1,1,1,1,1,1]],[(1,aC),(6,aC),(7,aC)],υ3 (ij n)⟩]
theorem yL (n:Nat):aP TZp (abc n):=bG Tryz.f43 (C45 n) (js:=acQ n) (hT:=⟨.nil,K45 n,.nil,.nil,(.cc (.cc .nil))⟩)
abbrev C46 (n:Nat):List bB:=abc n::C45 n
theorem K46 (n:Nat):aI TZp (C46 n):=.cons (yL n) (K45 n)
def jj (n:Nat)(a0:J11):M Int:=sh (aM none bT [vi a0.1,vi a0.2.1,vi a0.2.2.1,vi a0.2.2.2.1,vi a0.2.2.2.2.1,vi a0.2.2.2.2.2.1,vi a0.2.2.2.2.2.2.1,vi a0.2.2.2.2.2.2.2.1,vi a0.2.2.2.2.2.2.2.2.1,vi a0.2.2.2.2.2.2.2.2.2.1,.int IntKind.u8 a0.2.2.2.2.2.2.2.2.2.2]) λx0=>sh (oq (decide (0<=0/\0<(↑8:Int)))) λx1=>sh (ar li (((an x0).plus 1).plus 0)) λ(x2:Int)=>sh (oq (decide (0<=1/\1<(↑8:Int)))) λx3=>sh (ar li (((an x0).plus 1).plus 1)) λ(x4:Int)=>sh (oq (decide (0<=2/\2<(↑8:Int)))) λx5=>sh (ar li (((an x0).plus 1).plus 2)) λ(x6:Int)=>sh (xa n x2 x4 x6) λx7=>sh (oq (decide (0<=3/\3<(↑8:Int)))) λx8=>sh (ar li (((an x0).plus 1).plus 3)) λ(x9:Int)=>sh (oq (decide (0<=4/\4<(↑8:Int)))) λx10=>sh (ar li (((an x0).plus 1).plus 4)) λ(x11:Int)=>sh (oq (decide (0<=5/\5<(↑8:Int)))) λx12=>sh (ar li (((an x0).plus 1).plus 5)) λ(x13:Int)=>sh (oq (decide (0<=6/\6<(↑8:Int)))) λiY=>sh (ar li (((an x0).plus 1).plus 6)) λ(x15:Int)=>sh (oq (decide (0<=7/\7<(↑8:Int)))) λpT=>sh (ar li (((an x0).plus 1).plus 7)) λ(x17:Int)=>sh (ar (.int IntKind.u8) ((an x0).plus 10)) λ(rF:Int)=>if decide (rF=43) then AI (i64.wrap (i64.wrap (i64.wrap (i64.wrap (i64.wrap (x7.1*86400)+i64.wrap (x9*3600))+i64.wrap (x11*60))+x13)-i64.wrap (i64.wrap (x15*3600)+i64.wrap (x17*60)))) else AI (i64.wrap (i64.wrap (i64.wrap (i64.wrap (i64.wrap (x7.1*86400)+i64.wrap (x9*3600))+i64.wrap (x11*60))+x13)+i64.wrap (i64.wrap (x15*3600)+i64.wrap (x17*60))))
abbrev abd (n:Nat):bB:=⟨44,[.agg [.int .i64,.int .i64,.int .i64,.int .i64,.int .i64,.int .i64,.int .i64,.int .i64,.int .i64,.int .i64,.int .u8]],[aC],λx=>jj n x⟩
theorem u6 (n:Nat):aP TZp (abd n):=bG Tryz.f44 (C46 n) (hT:=.m1 (K46 n))
abbrev C47 (n:Nat):List bB:=abd n::C46 n
theorem K47 (n:Nat):aI TZp (C47 n):=.cons (u6 n) (K46 n)
def mC (n:Nat)(a0:Addr):M (ζ×Int):=sh (aN [li,li,li,li,li,li,li,li,li,li,.int IntKind.u8] a0) λ(x0:J11)=>sh (hC n (x0.1,x0.2.1,x0.2.2.1,x0.2.2.2.1,x0.2.2.2.2.1,x0.2.2.2.2.2.1,x0.2.2.2.2.2.2.1,x0.2.2.2.2.2.2.2.1,x0.2.2.2.2.2.2.2.2.1,x0.2.2.2.2.2.2.2.2.2.1,x0.2.2.2.2.2.2.2.2.2.2)) λx1=>if !x1 then AI ((ofBytes []),13) else sh (aN [li,li,li,li,li,li,li,li,li,li,.int IntKind.u8] a0) λ(x2:J11)=>sh (ar li (a0.plus 9)) λ(x3:Int)=>sh (mY [some (a0.plus 9)] (jj n (x2.1,x2.2.1,x2.2.2.1,x2.2.2.2.1,x2.2.2.2.2.1,x2.2.2.2.2.2.1,x2.2.2.2.2.2.2.1,x2.2.2.2.2.2.2.2.1,x2.2.2.2.2.2.2.2.2.1,x2.2.2.2.2.2.2.2.2.2.1,x2.2.2.2.2.2.2.2.2.2.2))) λx4=>sh (nT n x4 x3) λx5=>AI (x5.1,x5.2)
def mS (n:Nat)(a0:ζ):M (ζ×Int):=sh (mA n a0) λx0=>sh (aM none bT [vi 0,vi 0,vi 0,vi 0,vi 0,vi 0,vi 0,vi 0,vi 0,vi 0,.int IntKind.u8 0]) λx1=>sh (bF (an x1) [vi x0.1.1,vi x0.1.2.1,vi x0.1.2.2.1,vi x0.1.2.2.2.1,vi x0.1.2.2.2.2.1,vi x0.1.2.2.2.2.2.1,vi x0.1.2.2.2.2.2.2.1,vi x0.1.2.2.2.2.2.2.2.1,vi x0.1.2.2.2.2.2.2.2.2.1,vi x0.1.2.2.2.2.2.2.2.2.2.1,.int IntKind.u8 x0.1.2.2.2.2.2.2.2.2.2.2]) λx2=>if !x0.2 then AI ((ofBytes []),3) else sh (ar (.int IntKind.u8) ((an x1).plus 10)) λ(x3:Int)=>if decide (x3=0) then AI ((ofBytes []),3) else mC n (an x1)
abbrev abe (n:Nat):bB:=⟨31,[oS],[oS,aC],λx=>mS n x⟩
def acR (i:Nat):Option (List (Nat×η)):=Κ i 6 (Ω [2,0,3]++[(1,[3])]++Ω [4,5,6,7,8]) none
abbrev acS (n:Nat):List (gC (ζ×Int)):=[⟨[0,0,1,1,1],[.code [1,0,1,1,1],.code [1,1,1,1]],[(4,aJ)],λx=>mC n x⟩]
theorem AH (n:Nat):aP TZp (abe n):=bG Tryz.f31 (C47 n) (dr:=acR) (js:=acS n) (hT:=⟨.nil,K47 n,.nil,.nil,(.cc .nil)⟩)
abbrev C48 (n:Nat):List bB:=abe n::C47 n
theorem K48 (n:Nat):aI TZp (C48 n):=.cons (AH n) (K47 n)
def sE (n:Nat)(a0:ζ):M (ζ×Int):=sh (mA n a0) λx0=>sh (aM none bT [vi 0,vi 0,vi 0,vi 0,vi 0,vi 0,vi 0,vi 0,vi 0,vi 0,.int IntKind.u8 0]) λx1=>sh (bF (an x1) [vi x0.1.1,vi x0.1.2.1,vi x0.1.2.2.1,vi x0.1.2.2.2.1,vi x0.1.2.2.2.2.1,vi x0.1.2.2.2.2.2.1,vi x0.1.2.2.2.2.2.2.1,vi x0.1.2.2.2.2.2.2.2.1,vi x0.1.2.2.2.2.2.2.2.2.1,vi x0.1.2.2.2.2.2.2.2.2.2.1,.int IntKind.u8 x0.1.2.2.2.2.2.2.2.2.2.2]) λx2=>if !x0.2 then AI ((ofBytes []),3) else sh (ar (.int IntKind.u8) ((an x1).plus 10)) λ(x3:Int)=>if !decide (x3=0) then AI ((ofBytes []),3) else sh (aN [li,li,li,li,li,li,li,li,li,li,.int IntKind.u8] (an x1)) λ(x4:J11)=>sh (hC n (x4.1,x4.2.1,x4.2.2.1,x4.2.2.2.1,x4.2.2.2.2.1,x4.2.2.2.2.2.1,x4.2.2.2.2.2.2.1,x4.2.2.2.2.2.2.2.1,x4.2.2.2.2.2.2.2.2.1,x4.2.2.2.2.2.2.2.2.2.1,x4.2.2.2.2.2.2.2.2.2.2)) λx5=>if !x5 then AI ((ofBytes []),13) else sh (aN [li,li,li,li,li,li,li,li,li,li,.int IntKind.u8] (an x1)) λ(x6:J11)=>sh (jd n (x6.1,x6.2.1,x6.2.2.1,x6.2.2.2.1,x6.2.2.2.2.1,x6.2.2.2.2.2.1,x6.2.2.2.2.2.2.1,x6.2.2.2.2.2.2.2.1,x6.2.2.2.2.2.2.2.2.1,x6.2.2.2.2.2.2.2.2.2.1,x6.2.2.2.2.2.2.2.2.2.2)) λx7=>AI (x7,0)
abbrev abf (n:Nat):bB:=⟨45,[oS],[oS,aC],λx=>sE n x⟩
theorem CD (n:Nat):aP TZp (abf n):=bG Tryz.f45 (C48 n) (hT:=.m1 (K48 n))
abbrev C49 (n:Nat):List bB:=abf n::C48 n
theorem K49 (n:Nat):aI TZp (C49 n):=.cons (CD n) (K48 n)
def pd (n:Nat)(a0:ζ):M Int:=sh (sE n a0) λx0=>if !decide (x0.2=0) then AI 0 else if !mX x0.1 a0 then AI 0 else sh (mA n a0) λx1=>sh (aM none bT [vi 0,vi 0,vi 0,vi 0,vi 0,vi 0,vi 0,vi 0,vi 0,vi 0,.int IntKind.u8 0]) λx2=>sh (bF (an x2) [vi x1.1.1,vi x1.1.2.1,vi x1.1.2.2.1,vi x1.1.2.2.2.1,vi x1.1.2.2.2.2.1,vi x1.1.2.2.2.2.2.1,vi x1.1.2.2.2.2.2.2.1,vi x1.1.2.2.2.2.2.2.2.1,vi x1.1.2.2.2.2.2.2.2.2.1,vi x1.1.2.2.2.2.2.2.2.2.2.1,.int IntKind.u8 x1.1.2.2.2.2.2.2.2.2.2.2]) λx3=>sh (ar li ((an x2).plus 0)) λ(x4:Int)=>AI x4
abbrev abg (n:Nat):bB:=⟨32,[oS],[aC],λx=>pd n x⟩
theorem CE (n:Nat):aP TZp (abg n):=bG Tryz.f32 (C49 n) (hT:=.m1 (K49 n))
abbrev C50 (n:Nat):List bB:=abg n::C49 n
theorem K50 (n:Nat):aI TZp (C50 n):=.cons (CE n) (K49 n)
end Go.Sh
