
import Derived.Test.YtengdffgmpghgaaGreatDoorShLib
set_option linter.all false
set_option maxRecDepth 100000
set_option maxHeartbeats 0
namespace Go.Sh
open Go Go.Ago Go.Proofs Go.IntKind Go.Proofs.Tryz
variable (n:Nat)
noncomputable abbrev TZp:=Tryz.prog
abbrev J11:=Int×Int×Int×Int×Int×Int×Int×Int×Int×Int×Int
class FZ0 (α:Type) where z:α
instance {α:Type}:FZ0 (M α):=⟨AS⟩
instance {α β:Type}[FZ0 β]:FZ0 (α->β):=⟨λ_=>FZ0.z⟩
def lp0 {α:Type}[FZ0 α](b:α->Nat->α):Nat->α|0=>FZ0.z|n+1=>b (lp0 b n) n
abbrev τ0:=μ->Sl->Int->Int->M Unit
abbrev τ1:=Addr->Bool->Sl->Int->Int->Sl->Int->Int->Sl->Int->Int->M Bool
abbrev τ2:=Addr->Bool->Sl->Int->Int->Sl->Int->Int->M Bool
abbrev τ3:=Addr->Bool->Sl->Int->Int->M Bool
abbrev τ4:=ζ->Int->Int->M (Unit⊕Bool)
abbrev τ5:=Sl->M Sl
abbrev τ6:=Addr->Addr->ζ->Int->Int->M (Unit⊕Bool)
abbrev τ7:=Bool->Sl->Int->Addr->M (Sl×Int)
abbrev τ8:=Bool->Sl->Int->Addr->M Sl
abbrev τ9:=ζ->Sl->Int->Int->M Unit
abbrev τ10:=Sl->Sl->Int->Int->M Unit
abbrev τ11:=Addr->Addr->Int->Int->Int->M (Int⊕(Int×Bool))
abbrev τ12:=Sl->Int->Int->Addr->Addr->Addr->Int->Int->M (Unit⊕Bool)
abbrev τ13:=Addr->Addr->Addr->Addr->ξ->Int->M Unit
abbrev τ14:=Addr->Addr->Addr->Addr->ξ->Int->M Int
abbrev τ15:=Int->Int->Int->Int->M Int
abbrev τ16:=Addr->(Int×Int×Int×Int×Int)->Int->M (Unit⊕Bool)
abbrev τ17:=Int->Int->Int->M (Int×Int)
abbrev τ18:=Int->Int->M Int
abbrev τ19:=Sl->Addr->Sl->Int->Int->Sl->Int->Int->M Unit
abbrev τ20:=Sl->Sl->Int->Int->Sl->Int->Int->M Unit
abbrev τ21:=Addr->Sl->Sl->Int->Int->Sl->Int->Int->M Unit
abbrev τ22:=Addr->Sl->Sl->Int->Int->M Unit
abbrev τ23:=Addr->μ->Int->Addr->Sl->Int->Int->Sl->Int->Int->Sl->Int->Int->M (Unit⊕Bool)
abbrev τ24:=Addr->μ->Sl->Int->Int->Sl->Int->Int->M (Unit⊕Bool)
abbrev τ25:=Addr->Sl->Int->Int->M (Unit⊕Bool)
abbrev τ26:=Addr->Int->Addr->Addr->Addr->Int->Int->M Unit
abbrev τ27:=Addr->Sl->Sl->Bool->Sl->Sl->Int->Int->Int->Sl->Int->Int->Sl->Int->Int->Sl->Int->Int->M Bool
abbrev τ28:=Addr->Sl->Sl->Bool->Sl->Sl->Int->Int->Int->Sl->Int->Int->Sl->Int->Int->M Bool
abbrev τ29:=Addr->Sl->Sl->Bool->Sl->Sl->Int->Int->Int->Sl->Int->Int->M Bool
abbrev τ30:=Addr->Sl->Sl->Bool->Sl->Sl->Int->Int->M Bool
abbrev τ31:=Addr->Sl->Sl->Bool->Sl->Sl->Sl->Int->Int->M Unit
abbrev τ32:=Addr->Sl->Sl->Int->Int->M (Unit⊕Int)
abbrev τ33:=Addr->Addr->Sl->Int->Int->Sl->Int->Int->M Unit
abbrev τ34:=Addr->Addr->Sl->Int->Int->M Unit
abbrev τ35:=Addr->Addr->Sl->μ->Int->Sl->Sl->Int->Int->Sl->Int->Int->M (Unit⊕Bool)
abbrev τ36:=Sl->Sl->Int->Int->M (Unit⊕Bool)
abbrev τ37:=Addr->Addr->Sl->μ->Sl->Int->Int->M (Unit⊕Bool)
abbrev τ38:=Addr->Addr->Sl->Int->Int->M (Unit⊕Bool)
abbrev τ39:=Addr->Int->Int->Sl->Int->Int->M (Unit⊕Bool)
abbrev τ40:=Addr->Int->Sl->Int->Int->M (Unit⊕Bool)
abbrev τ41:=Addr->μ->Addr->Int->Bool->Sl->Int->Int->Sl->Int->Int->M (Int⊕Bool)
abbrev τ42:=Addr->μ->Sl->Int->Int->M (Unit⊕Bool)
abbrev τ43:=(ξ×ξ×ξ×ξ×ξ)->Int->M (Unit⊕Int)
abbrev τ44:=Addr->Sl->Addr->ξ->Sl->Int->Int->M Unit
abbrev τ45:=Addr->Addr->Sl->Addr->Int->Sl->Int->Int->M Unit
abbrev τ46:=ζ->Addr->Int->Int->M Unit
abbrev τ47:=θ->Sl->Int->Int->M Sl
abbrev τ48:=Sl->Sl->Int->M (Unit⊕Int)
abbrev τ49:=Addr->Addr->ξ->Int->Int->M (Unit⊕Int)
abbrev τ50:=Sl->Int->Int->Addr->Int->Int->M Unit
abbrev τ51:=Sl->Int->Int->M Unit
abbrev τ52:=Addr->θ->Sl->Int->Int->M Unit
abbrev τ53:=Int->Addr->Sl->M Sl
abbrev τ54:=Int->Addr->Int->Sl->Int->Int->M Int
abbrev τ55:=Sl->Sl->Int->M (Unit⊕Bool)
abbrev τ56:=Addr->Int->Int->Int->M ((Int×Int)⊕Bool)
abbrev τ57:=Int->Sl->Int->Int->M (Unit⊕Int)
abbrev τ58:=Addr->μ->Addr->Addr->Int->Sl->Int->Int->Sl->Int->Int->M Int
abbrev τ59:=Addr->μ->Int->Sl->Int->Int->M (Int⊕(Int×Int))
abbrev L10 {β}(a:Addr)(f:Int->M β):M β:=sh (ak li a) f
abbrev L11 {β}(a:Addr)(f:ζ->M β):M β:=sh (ak .str a) f
abbrev L12 {β}(s:Sl)(k:Int)(z:Nat)(f:Addr->M β):M β:=sh (an s k z) f
abbrev L13 {β}(a:Addr)(f:Int×Int×Int×Int×Int×Int×Int×Bool×Bool->M β):M β:=sh (aE [li,li,li,li,li,li,li,.bool,.bool] a) f
abbrev L14 {β}(f:Nat->M β):M β:=sh (aJ none bJ [vi 0,vi 0,vi 0,vi 0,vi 0,vi 0,vi 0,.bool false,.bool false]) f
abbrev L15 {β}(a:Addr)(f:Sl->M β):M β:=sh (ak .sl a) f
abbrev L16 {β}(a:Addr)(f:Int×ζ×Bool×Sl×Sl->M β):M β:=sh (aE [li,.str,.bool,.sl,.sl] a) f
abbrev L17 {β}(f:Nat->M β):M β:=sh (aJ none aW [vi 0,.string (ofBytes []),.bool false,bF,bF]) f
abbrev L18 {β}(a:Addr)(f:ξ->M β):M β:=sh (ak .raw a) f
abbrev L19 {β}(a:Addr)(f:Bool->M β):M β:=sh (ak .bool a) f
abbrev L20 {β}(f:Nat->M β):M β:=sh (aJ none rV [Value.nilFunc]) f
abbrev L21 {β}(a:Addr)(f:Bool×Sl->M β):M β:=sh (aE [.bool,.sl] a) f
abbrev L22 {β}(f:Nat->M β):M β:=sh (aJ none aD [.bool false,bF]) f
abbrev L23 {β}(f:Nat->M β):M β:=sh (aJ none bT [.bool false,bF,vi 0]) f
abbrev L24 {β}(a:Addr)(f:Bool×Sl×Int->M β):M β:=sh (aE [.bool,.sl,li] a) f
abbrev L25 {β}(a:Addr)(f:J11->M β):M β:=sh (aE [li,li,li,li,li,li,li,li,li,li,.int IntKind.u8] a) f
abbrev L26 {β}(f:Nat->M β):M β:=sh (aJ none bN [vi 0,vi 0,vi 0,vi 0,vi 0,vi 0,vi 0,vi 0,vi 0,vi 0,.int IntKind.u8 0]) f
abbrev L27 {β}(f:Nat->M β):M β:=sh (aJ none ar [vi 0]) f
abbrev L28 {β}(a:Addr)(f:Sl×Int->M β):M β:=sh (aE [.sl,li] a) f
abbrev L29 {β}(a:Addr)(f:Int×ζ->M β):M β:=sh (aE [li,.str] a) f
abbrev L30 {β}(f:Nat->M β):M β:=sh (aJ none bt [bF]) f
abbrev L31 {β}(a:Addr)(f:Int×ζ×Sl×Int×Sl×Sl->M β):M β:=sh (aE [li,.str,.sl,li,.sl,.sl] a) f
abbrev L32 {β}(f:Nat->M β):M β:=sh (aJ none ao [bF,vi 0]) f
abbrev L33 {β}(a:Addr)(f:θ->M β):M β:=sh (ak .ptr a) f
abbrev V10 (x:Int×Int×Int×Int×Int×Int×Int×Bool×Bool):List Value:=[vi x.1,vi x.2.1,vi x.2.2.1,vi x.2.2.2.1,vi x.2.2.2.2.1,vi x.2.2.2.2.2.1,vi x.2.2.2.2.2.2.1,.bool x.2.2.2.2.2.2.2.1,.bool x.2.2.2.2.2.2.2.2]
abbrev V11 (x:Int×Int×Int×Int×Int×Int×Int×Int×Int×Int×Int):List Value:=[vi x.1,vi x.2.1,vi x.2.2.1,vi x.2.2.2.1,vi x.2.2.2.2.1,vi x.2.2.2.2.2.1,vi x.2.2.2.2.2.2.1,vi x.2.2.2.2.2.2.2.1,vi x.2.2.2.2.2.2.2.2.1,vi x.2.2.2.2.2.2.2.2.2.1,.int IntKind.u8 x.2.2.2.2.2.2.2.2.2.2]
abbrev C0:List aS:=[⟨96,[.one (.str),.one (.int .i64),.one (.int .i64)],[.one (.int .u64),.one (.raw)],υ3 (fC n)⟩,⟨195,[.one (.str),.one (.str)],[.one (.int .i64)],υ2 (dN n)⟩,⟨164,[.one (.int .u64)],[.one (.int .i64)],λx=>cP n x⟩,⟨165,[.one (.int .u64),.one (.int .i64)],[.one (.str)],υ2 (fY n)⟩,⟨134,[.one (.f64)],[.one (.int .u64)],λx=>eY n x⟩,⟨167,[.one (.str),.one (.int .i64)],[.one (.str)],υ2 (strings_Repeat n)⟩,⟨138,[.one (.str),.one (.str)],[.one (.str)],υ2 (gu n)⟩,⟨80,[.one (.ptr)],[.one (.ptr)],λx=>qt n x⟩,⟨116,[.one (.int .u64)],[.one (.int .i64)],λx=>fP n x⟩,⟨85,[.one (.str),.one (.int .u8)],[.one (.int .i64)],υ2 (strings_IndexByte n)⟩,⟨86,[.one (.str)],[.one (.int .i64),.one (.raw)],λx=>strconv_Atoi n x⟩,⟨87,[.one (.str),.one (.str)],[.one (.str)],υ2 (strings_TrimPrefix n)⟩,⟨125,[.one (.int .u64)],[.one (.f64)],λx=>cV n x⟩,⟨123,[.one (.int .i64)],[.one (.str)],λx=>strconv_Itoa n x⟩,⟨92,[.one (.str),.one (.str)],[.one (.str),.one (.bool)],υ2 (strings_CutPrefix n)⟩,⟨61,[.one (.str)],[.one (.int .i64),.one (.int .i64)],λx=>px n x⟩,⟨158,[.one (.str),.one (.str)],[.one (.int .i64)],υ2 (iW n)⟩]
theorem K0:aC TZp (C0 n):=.cons (zk n) (.cons (oC n) (.cons (tC n) (.cons (wV n) (.cons (As n) (.cons (Co n) (.cons (zi n) (.cons (Cp n) (.cons (Bo n) (.cons (zh n) (.cons (strconv_Atoi_ok n) (.cons (yG n) (.cons (wU n) (.cons (EJ n) (.cons (zj n) (.cons (Bn n) (.cons (xH n) .nil))))))))))))))))
def qu (n:Nat)(a0:Addr):M (Bool×Int):=L10 (a0.plus 0) λx0=>if decide (0<=x0) then L10 (a0.plus 0) λx1=>AI (decide (x1<9),1) else AI (false,1)
abbrev adw:aS:=⟨16,[aG],[hS,aq],λx=>qu n x⟩
theorem yu:aF TZp (adw n):=aY f16 (C0 n) (hT:=.m1 (K0 n))
abbrev C1:List aS:=adw n::C0 n
theorem K1:aC TZp (C1 n):=.cons (yu n) (K0 n)
def qv (n:Nat)(a0:Addr):M (Bool×Int):=L11 (a0.plus 1) λx0=>AI (decide ((↑(ByteArray.size x0):Int)<=65536),6)
abbrev adx:aS:=⟨17,[aG],[hS,aq],λx=>qv n x⟩
theorem yv:aF TZp (adx n):=aY f17 (C1 n) (hT:=.m1 (K1 n))
abbrev C2:List aS:=adx n::C1 n
theorem K2:aC TZp (C2 n):=.cons (yv n) (K1 n)
def pJ (G:τ0)(n:Nat):τ0:=λa0 a1 a2 a3=>if decide (a3<a2) then L12 a1 a3 9 λx0=>L13 x0 λx1=>L14 λx2=>sh (bD (ai x2) (V10 x1)) λx3=>L10 ((ai x2).plus 1) λx4=>L10 ((ai x2).plus 1) λx5=>sh (rK ar (Ty.one .sl) uV a0 (vi x5)) λ(x6:Bool×Sl)=>sh (app true x6.2 1 ar 1 [vi a3]) λx7=>sh (Ed ar a0 (vi x4) (aM x7)) λx8=>G a0 a1 a2 (i64.wrap (a3+1)) else AI ()
def gU:=lp0 pJ
theorem yH:gU (n+1)=pJ (gU n) n:=rfl
def kO (a0:Int×ζ×Sl×Int×Sl×Sl):M (μ):=sh (aJ none fI [vi a0.1,.string a0.2.1,aM a0.2.2.1,vi a0.2.2.2.1,aM a0.2.2.2.2.1,aM a0.2.2.2.2.2]) λx0=>sh (B5 ar) λx1=>L15 ((ai x0).plus 4) λx2=>sh (gU n (some x1) x2 (↑x2.len:Int) 0) λx3=>AI (some x1)
abbrev JI:L1:=⟨[0,1,0,1,1],[(3,OX),(8,bU),(9,aq),(10,aq)],[],[4,5]++List.range' 10 16,0,λn=>υ4 (gU n)⟩
def Xe (i:Nat):Option (List (Nat×η)):=Κ i 5 (Ω [0,1,3,4,7,8,2,5,6,9,10]) none
theorem TU:iJ TZp f25 (JI.e n) JI.ws:=L1.ok f25 JI n C2 (dr:=Xe) (hT:=λm _=>.m1 (K2 m))
abbrev C3:List aS:=⟨25,[.agg [.int .i64,.str,.sl,.int .i64,.sl,.sl]],[OX],λx=>kO n x⟩::C2 n
theorem K3:aC TZp (C3 n):=.cons (aY f25 (C2 n) (ll:=[JI.e n]) (dr:=Xe) (hT:=⟨.nil,K2 n,.nil,(.cc (TU n) .nil),.nil⟩)) (K2 n)
def pK (G:τ1)(n:Nat):τ1:=λa0 a1 a2 a3 a4 a5 a6 a7 a8 a9 a10=>if decide (a10<a9) then L12 a8 a10 1 λx0=>L10 x0 λx1=>if a1 then if decide (0<=x1) then L15 (a0.plus 0) λx2=>G a0 (decide (x1<(↑x2.len:Int))) a2 a3 a4 a5 a6 a7 a8 a9 (i64.wrap (a10+1)) else G a0 false a2 a3 a4 a5 a6 a7 a8 a9 (i64.wrap (a10+1)) else G a0 false a2 a3 a4 a5 a6 a7 a8 a9 (i64.wrap (a10+1)) else AI a1
def jr:=lp0 pK
theorem yI:jr (n+1)=pK (jr n) n:=rfl
def jE (G:τ2)(n:Nat):τ2:=λa0 a1 a2 a3 a4 a5 a6 a7=>if decide (a7<a6) then L12 a5 a7 1 λx0=>L15 x0 λx1=>sh (jr n a0 a1 a2 a3 a4 a5 a6 a7 x1 (↑x1.len:Int) 0) λx2=>G a0 x2 a2 a3 a4 a5 a6 (i64.wrap (a7+1)) else AI a1
def ju:=lp0 jE
theorem nv:ju (n+1)=jE (ju n) n:=rfl
def pL (G:τ3)(n:Nat):τ3:=λa0 a1 a2 a3 a4=>if decide (a4<a3) then L12 a2 a4 5 λx0=>L16 x0 λx1=>L17 λx2=>sh (bD (ai x2) [vi x1.1,.string x1.2.1,.bool x1.2.2.1,aM x1.2.2.2.1,aM x1.2.2.2.2]) λx3=>L15 ((ai x2).plus 3) λx4=>L15 ((ai x2).plus 4) λx5=>sh (aJ none bt [aM x4,aM x5]) λx6=>sh (ju n a0 a1 a2 a3 a4 { a:=some (ai x6),len:=2,cap:=3 } (↑2:Int) 0) λx7=>G a0 x7 a2 a3 (i64.wrap (a4+1)) else AI a1
def jv:=lp0 pL
theorem yJ:jv (n+1)=pL (jv n) n:=rfl
def lB (a0:Addr)(a1:Bool):M Bool:=L15 (a0.plus 0) λx0=>sh (jv n a0 a1 x0 (↑x0.len:Int) 0) λx1=>AI x1
def sO (a0:Sl×Int):M Bool:=sh (aJ none ao [aM a0.1,vi a0.2]) λx0=>L10 ((ai x0).plus 1) λx1=>if decide (0<=x1) then L10 ((ai x0).plus 1) λx2=>L15 ((ai x0).plus 0) λx3=>lB n (ai x0) (decide (x2<(↑x3.len:Int))) else lB n (ai x0) false
abbrev JJ:L1:=⟨[0,1,0,1,1],[(1,aG),(3,hS),(22,bU),(23,aq),(24,aq)],[(3,hS)],[3,5,7,9]++List.range' 24 35,0,λn=>υ5 (jv n)⟩
abbrev JK:L1:=⟨[0,1,1,0,0,1,1,0,0,1,0,1,1],[(1,aG),(3,hS),(22,bU),(23,aq),(24,aq),(32,bU),(33,aq),(34,aq)],[(3,hS)],[3,7,9]++List.range' 34 24,2,λn=>υ8 (ju n)⟩
abbrev JL:L1:=⟨[0,1,1,0,0,1,1,0,0,1,1,0,0,1,1,0,0,1,0,1,1],[(1,aG),(3,hS),(22,bU),(23,aq),(24,aq),(32,bU),(33,aq),(34,aq),(38,bU),(39,aq),(40,aq)],[(3,hS)],[3,9]++List.range' 40 17,4,λn=>υ11 (jr n)⟩
abbrev afA:List (fT Bool):=[⟨[0,0,1,1],[.code [1,0,1,1],.code [1,1,1]],[(1,aG),(3,hS)],υ2 (lB n)⟩]
theorem TV:iJ TZp f33 (JL.e n) JL.ws:=L1.ok f33 JL n C3 (hT:=λm _=>.m1 (K3 m))
theorem TW:iJ TZp f33 (JK.e n) JK.ws:=L1.ok f33 JK n C3 (lt:=λn=>[JL.e n]) (hT:=λm _=>⟨.nil,K3 m,.nil,(.cc (TV m) .nil),.nil⟩)
theorem TY:iJ TZp f33 (JJ.e n) JJ.ws:=L1.ok f33 JJ n C3 (lt:=λn=>[JK.e n]) (hT:=λm _=>⟨.nil,K3 m,.nil,(.cc (TW m) .nil),.nil⟩)
abbrev C4:List aS:=⟨33,[.agg [.sl,.int .i64]],[hS],λx=>sO n x⟩::C3 n
theorem K4:aC TZp (C4 n):=.cons (aY f33 (C3 n) (ll:=[JJ.e n]) (js:=afA n) (hT:=⟨.nil,K3 n,.nil,(.cc (TY n) .nil),(.cc .nil)⟩)) (K3 n)
structure aT where
 fU:Int->Addr->Addr->Sl->Int->Int->M Unit
 fV:Addr->Sl->Int->Int->M Unit
 eT:Int->Addr->Addr->Addr->M Unit
def gR (G:aT)(n:Nat)(x:ξ)(a0:Int):M Unit:=if pG nL x then sh (nU [aG,aG,aG] x) λ(c:Addr×Addr×Addr)=>G.eT a0 c.1 c.2.1 c.2.2 else AS
abbrev nz:=gR
def nW (G:aT)(n:Nat)(a0:Int)(a1 a2:Addr)(a3:Sl)(a4 a5:Int):M Unit:=if decide (a5<a4) then L12 a3 a5 1 λx0=>L10 x0 λx1=>L18 a2 λx2=>sh (gR G n x2 x1) λx3=>G.fU a0 a1 a2 a3 a4 (i64.wrap (a5+1)) else AI ()
def nX (G:aT)(n:Nat)(a0:Addr)(a1:Sl)(a2 a3:Int):M Unit:=if decide (a3<a2) then L12 a1 a3 1 λx0=>L10 x0 λx1=>L18 a0 λx2=>sh (nz G n x2 x1) λx3=>G.fV a0 a1 a2 (i64.wrap (a3+1)) else AI ()
def qw (G:aT)(n:Nat)(a0:Int)(a1 a2 a3:Addr):M Unit:=L15 a1 λx0=>L12 x0 a0 1 λx1=>L19 x1 λx2=>if x2 then AI () else L15 a1 λx3=>L12 x3 a0 1 λx4=>sh (bD x4 [.bool true]) λx5=>L15 (a2.plus 0) λx6=>L12 x6 a0 5 λx7=>L15 (x7.plus 3) λx8=>sh (G.fU a0 a2 a3 x8 (↑x8.len:Int) 0) λx9=>L15 (a2.plus 0) λx10=>L12 x10 a0 5 λx11=>L15 (x11.plus 4) λx12=>sh (G.fV a3 x12 (↑x12.len:Int) 0) λx13=>AI ()
def aT.at:Nat->aT|0=>⟨λ_ _ _ _ _ _=>AS,λ_ _ _ _=>AS,λ_ _ _ _=>AS⟩|n+1=>⟨nW (aT.at n) n,nX (aT.at n) n,qw (aT.at n) n⟩
def fU:=(aT.at n).fU
theorem wW:fU (n+1)=nW (aT.at n) n:=rfl
def fV:=(aT.at n).fV
theorem wX:fV (n+1)=nX (aT.at n) n:=rfl
def eT:=(aT.at n).eT
theorem zl:eT (n+1)=qw (aT.at n) n:=rfl
def At:=gR (aT.at n) n
def Au:=nz (aT.at n) n
abbrev RU:aS:=⟨47,[aq,aG,aG,aG],[],υ4 (eT n)⟩
abbrev JM:L1:=⟨[0,1,0,1,1],[(0,aq),(2,aG),(3,aG),(21,bU),(22,aq),(23,aq)],[],[6]++List.range' 23 8,0,λn=>υ6 (fU n)⟩
abbrev JN:L1:=⟨[0,1,1,1,1],[(3,aG),(36,bU),(37,aq),(38,aq)],[],[8]++List.range' 38 8,2,λn=>υ4 (fV n)⟩
abbrev C5:List aS:=RU n::C4 n
abbrev JO:List jV:=[⟨27,[aq],[],λx a=>At n x a⟩, ⟨42,[aq],[],λx a=>Au n x a⟩]
def iE:Prop:=aF TZp (RU n)
theorem abj (H:iE n):aC TZp (C5 n):=.cons H (K4 n)
theorem PI (H:iE n):qc TZp (JO n):=.cons (dB (l:=[⟨47,[aG,aG,aG],λa c=>eT n a c.1 c.2.1 c.2.2⟩]) (.cons (λa c=>aL (by kernel_rfl) ((H) (a,c.1,c.2.1,c.2.2))) .nil) (λx a=>by kernel_rfl)) (.cons (dB (l:=[⟨47,[aG,aG,aG],λa c=>eT n a c.1 c.2.1 c.2.2⟩]) (.cons (λa c=>aL (by kernel_rfl) ((H) (a,c.1,c.2.1,c.2.2))) .nil) (λx a=>by kernel_rfl)) .nil)
theorem T0 (H:∀m,m<n->iE m):iJ TZp f47 (JM.e n) JM.ws:=L1.ok f47 JM n C5 (dt:=JO) (hT:=λm hm=>⟨.nil,abj m (H m hm),(PI m (H m hm)),.nil,.nil⟩)
theorem T4 (H:∀m,m<n->iE m):iJ TZp f47 (JN.e n) JN.ws:=L1.ok f47 JN n C5 (dt:=JO) (hT:=λm hm=>⟨.nil,abj m (H m hm),(PI m (H m hm)),.nil,.nil⟩)
theorem wY (H:∀m,m<n+1->iE m):aF TZp (RU (n+1)):=aY f47 (C5 n) (dl:=JO n) (ll:=[JM.e n,JN.e n]) (hT:=⟨.nil,abj n (H n (aad n)),(PI n (H n (aad n))),(.cc (T0 n (λk hk=>H k (acy hk))) (.cc (T4 n (λk hk=>H k (acy hk))) .nil)),.nil⟩)
theorem rQ:∀n m,m<n->iE m:=by
 intro n
 induction n with
 |zero=>intro m hm;exact absurd hm (aji m)
 |succ n ih=>
  intro m hm;cases m with
  |zero=>exact gr (fn:=f47) (by kernel_rfl) (by kernel_rfl) (by kernel_rfl) (λ_=>rfl)
  |succ k=>exact wY k λm hm=>ih m (by omega)
theorem Bp:aF TZp (RU n):=(rQ (n+1) n (aad n))
theorem K5:aC TZp (C5 n):=abj n (rQ (n+1) n (aad n))
def rW (x:ξ)(a0:Int):M Unit:=if pG nL x then sh (nU [aG,aG,aG] x) λ(c:Addr×Addr×Addr)=>eT n a0 c.1 c.2.1 c.2.2 else AS
def nf (a0:Sl×Int)(a1:Int)(a2:Sl):M Unit:=sh (aJ none ao [aM a0.1,vi a0.2]) λx0=>sh (aJ none uH [aM a2]) λx1=>L20 λx2=>sh (bD (ai x2) [.func (Fn.func nL) #[] #[.pointer (some (ai x1)),.pointer (some (ai x0)),.pointer (some (ai x2))]]) λx3=>L18 (ai x2) λx4=>sh (rW n x4 a1) λx5=>AI ()
abbrev Xf:List jV:=[⟨8,[aq],[],λx a=>rW n x a⟩]
theorem afB:qc TZp (Xf n):=.cons (dB (l:=[⟨47,[aG,aG,aG],λa c=>eT n a c.1 c.2.1 c.2.2⟩]) (.cons (λa c=>aL (by kernel_rfl) ((Bp n) (a,c.1,c.2.1,c.2.2))) .nil) (λx a=>by kernel_rfl)) .nil
abbrev C6:List aS:=⟨34,[.agg [.sl,.int .i64],aq,bU],[],υ3 (nf n)⟩::C5 n
theorem K6:aC TZp (C6 n):=.cons (aY f34 (C5 n) (dl:=Xf n) (hT:=⟨.nil,K5 n,(afB n),.nil,.nil⟩)) (K5 n)
def mS (G:τ4)(n:Nat):τ4:=λa0 a1 a2=>if decide (a2<a1) then sh (jy a0 a2) λx0=>if decide (97<=(↑x0.toNat:Int)) then if decide ((↑x0.toNat:Int)<=122) then G a0 a1 (i64.wrap (a2+1)) else if decide (65<=(↑x0.toNat:Int)) then if decide ((↑x0.toNat:Int)<=90) then G a0 a1 (i64.wrap (a2+1)) else if decide (48<=(↑x0.toNat:Int)) then if decide ((↑x0.toNat:Int)<=57) then G a0 a1 (i64.wrap (a2+1)) else if decide ((↑x0.toNat:Int)=95) then G a0 a1 (i64.wrap (a2+1)) else if decide ((↑x0.toNat:Int)=45) then G a0 a1 (i64.wrap (a2+1)) else if decide ((↑x0.toNat:Int)=46) then G a0 a1 (i64.wrap (a2+1)) else if !decide ((↑x0.toNat:Int)=58) then AI (Sum.inr false) else G a0 a1 (i64.wrap (a2+1)) else if decide ((↑x0.toNat:Int)=95) then G a0 a1 (i64.wrap (a2+1)) else if decide ((↑x0.toNat:Int)=45) then G a0 a1 (i64.wrap (a2+1)) else if decide ((↑x0.toNat:Int)=46) then G a0 a1 (i64.wrap (a2+1)) else if !decide ((↑x0.toNat:Int)=58) then AI (Sum.inr false) else G a0 a1 (i64.wrap (a2+1)) else if decide (48<=(↑x0.toNat:Int)) then if decide ((↑x0.toNat:Int)<=57) then G a0 a1 (i64.wrap (a2+1)) else if decide ((↑x0.toNat:Int)=95) then G a0 a1 (i64.wrap (a2+1)) else if decide ((↑x0.toNat:Int)=45) then G a0 a1 (i64.wrap (a2+1)) else if decide ((↑x0.toNat:Int)=46) then G a0 a1 (i64.wrap (a2+1)) else if !decide ((↑x0.toNat:Int)=58) then AI (Sum.inr false) else G a0 a1 (i64.wrap (a2+1)) else if decide ((↑x0.toNat:Int)=95) then G a0 a1 (i64.wrap (a2+1)) else if decide ((↑x0.toNat:Int)=45) then G a0 a1 (i64.wrap (a2+1)) else if decide ((↑x0.toNat:Int)=46) then G a0 a1 (i64.wrap (a2+1)) else if !decide ((↑x0.toNat:Int)=58) then AI (Sum.inr false) else G a0 a1 (i64.wrap (a2+1)) else if decide (65<=(↑x0.toNat:Int)) then if decide ((↑x0.toNat:Int)<=90) then G a0 a1 (i64.wrap (a2+1)) else if decide (48<=(↑x0.toNat:Int)) then if decide ((↑x0.toNat:Int)<=57) then G a0 a1 (i64.wrap (a2+1)) else if decide ((↑x0.toNat:Int)=95) then G a0 a1 (i64.wrap (a2+1)) else if decide ((↑x0.toNat:Int)=45) then G a0 a1 (i64.wrap (a2+1)) else if decide ((↑x0.toNat:Int)=46) then G a0 a1 (i64.wrap (a2+1)) else if !decide ((↑x0.toNat:Int)=58) then AI (Sum.inr false) else G a0 a1 (i64.wrap (a2+1)) else if decide ((↑x0.toNat:Int)=95) then G a0 a1 (i64.wrap (a2+1)) else if decide ((↑x0.toNat:Int)=45) then G a0 a1 (i64.wrap (a2+1)) else if decide ((↑x0.toNat:Int)=46) then G a0 a1 (i64.wrap (a2+1)) else if !decide ((↑x0.toNat:Int)=58) then AI (Sum.inr false) else G a0 a1 (i64.wrap (a2+1)) else if decide (48<=(↑x0.toNat:Int)) then if decide ((↑x0.toNat:Int)<=57) then G a0 a1 (i64.wrap (a2+1)) else if decide ((↑x0.toNat:Int)=95) then G a0 a1 (i64.wrap (a2+1)) else if decide ((↑x0.toNat:Int)=45) then G a0 a1 (i64.wrap (a2+1)) else if decide ((↑x0.toNat:Int)=46) then G a0 a1 (i64.wrap (a2+1)) else if !decide ((↑x0.toNat:Int)=58) then AI (Sum.inr false) else G a0 a1 (i64.wrap (a2+1)) else if decide ((↑x0.toNat:Int)=95) then G a0 a1 (i64.wrap (a2+1)) else if decide ((↑x0.toNat:Int)=45) then G a0 a1 (i64.wrap (a2+1)) else if decide ((↑x0.toNat:Int)=46) then G a0 a1 (i64.wrap (a2+1)) else if !decide ((↑x0.toNat:Int)=58) then AI (Sum.inr false) else G a0 a1 (i64.wrap (a2+1)) else AI (Sum.inl ())
def kP:=lp0 mS
def xI (a0:ζ):M Bool:=sh (kP n a0 (↑a0.size:Int) 0) (bu (λx0=>if decide (1<=(↑a0.size:Int)) then AI (decide ((↑a0.size:Int)<=64)) else AI false) (λx0=>AI x0))
abbrev JP:L2:=⟨[0,1,0,1],[(0,oz),(6,aq),(7,aq)],[],[(2,hS)],[2,3,4]++List.range' 7 46,0,.ret,λn=>υ3 (kP n)⟩
theorem T5:iJ TZp f48 (JP.e n) JP.ws:=L2.ok f48 JP n C6 (hT:=λm _=>.m1 (K6 m))
abbrev C7:List aS:=⟨48,[oz],[hS],λx=>xI n x⟩::C6 n
theorem K7:aC TZp (C7 n):=.cons (aY f48 (C6 n) (ll:=[JP.e n]) (hT:=⟨.nil,K6 n,.nil,(.cc (T5 n) .nil),.nil⟩)) (K6 n)
def qx (G:τ5)(n:Nat):τ5:=λa0=>if decide (0<(↑a0.len:Int)) then L12 a0 (i64.wrap ((↑a0.len:Int)-1)) 1 λx0=>sh (ak (.int IntKind.u8) x0) λ(x1:Int)=>if decide (x1=0) then sh (jT a0 0 (i64.wrap ((↑a0.len:Int)-1)) gH 1) λx2=>G x2 else AI a0 else AI a0
def iK:=lp0 qx
theorem zm:iK (n+1)=qx (iK n) n:=rfl
def xJ (a0:Sl):M Sl:=sh (iK n a0) λx0=>AI x0
abbrev JQ:L1:=⟨[0,0,1],[(0,bU)],[(0,bU)],[0]++List.range' 3 17,0,λn x=>iK n x⟩
theorem T6:iJ TZp f84 (JQ.e n) JQ.ws:=L1.ok f84 JQ n C7 (hT:=λm _=>.m1 (K7 m))
abbrev C8:List aS:=⟨84,[bU],[bU],λx=>xJ n x⟩::C7 n
theorem K8:aC TZp (C8 n):=.cons (aY f84 (C7 n) (ll:=[JQ.e n]) (hT:=⟨.nil,K7 n,.nil,(.cc (T6 n) .nil),.nil⟩)) (K7 n)
def nY (G:Addr->Addr->ζ->Int->Int->M (Unit⊕Bool))(n:Nat)(a0 a1:Addr)(a2:ζ)(a3 a4 a5:Int):M (Unit⊕Bool):=sh (jy a2 a3) λx0=>L15 (a1.plus 1) λx1=>L12 x1 (i64.wrap (i64.wrap ((↑a2.size:Int)-1)-a3)) 1 λx2=>sh (bD x2 [.int IntKind.u8 (IntKind.u8.wrap ((↑x0.toNat:Int)-48))]) λx3=>G a0 a1 a2 a4 (i64.wrap (a5+1))
def qy (G:τ6)(n:Nat):τ6:=λa0 a1 a2 a3 a4=>if decide (a4<a3) then sh (jy a2 a4) λx0=>if decide ((↑x0.toNat:Int)<48) then sh (bD a0 [.bool false,bF]) λx1=>AI (Sum.inr false) else sh (jy a2 a4) λx1=>if decide (57<(↑x1.toNat:Int)) then sh (bD a0 [.bool false,bF]) λx2=>AI (Sum.inr false) else nY G n a0 a1 a2 a4 a3 a4 else AI (Sum.inl ())
def iL:=lp0 qy
theorem zn:iL (n+1)=qy (iL n) n:=rfl
def Bq:=nY (iL n) n
def jZ (a0 a1:Addr)(a2:ζ):M ((Bool×Sl)×Bool):=sh (vG none gH [.int IntKind.u8 0] (↑a2.size:Int) (↑a2.size:Int)) λx0=>sh (bD (a1.plus 1) [aM x0]) λx1=>sh (iL n a0 a1 a2 (↑a2.size:Int) 0) (bu (λx2=>L15 (a1.plus 1) λx3=>sh (xJ n x3) λx4=>sh (bD (a1.plus 1) [aM x4]) λx5=>L21 a1 λx6=>sh (bD a0 [.bool x6.1,aM x6.2]) λx7=>L21 a0 λx8=>AI (x8,true)) (λx2=>L21 a0 λx3=>AI (x3,x2)))
def iM (a0:ζ)(a1 a2:Addr)(a3:ζ):M ((Bool×Sl)×Bool):=if decide ((↑a3.size:Int)=0) then sh (bD a1 [.bool false,bF]) λx0=>L21 a1 λx1=>AI (x1,false) else if decide (400<(↑a3.size:Int)) then sh (bD a1 [.bool false,bF]) λx0=>L21 a1 λx1=>AI (x1,false) else sh (jy a3 0) λx0=>if decide ((↑x0.toNat:Int)=48) then if decide (1<(↑a0.size:Int)) then sh (bD a1 [.bool false,bF]) λx1=>L21 a1 λx2=>AI (x2,false) else jZ n a1 a2 a3 else jZ n a1 a2 a3
def oD (a0:ζ):M ((Bool×Sl)×Bool):=L22 λx0=>L22 λx1=>sh (bD (ai x1) [.bool false,bF]) λx2=>if decide (1<(↑a0.size:Int)) then sh (jy a0 0) λx3=>if decide ((↑x3.toNat:Int)=45) then sh (bD ((ai x1).plus 0) [.bool true]) λx4=>sh (hY a0 1 (↑a0.size:Int)) λx5=>iM n a0 (ai x0) (ai x1) x5 else iM n a0 (ai x0) (ai x1) a0 else iM n a0 (ai x0) (ai x1) a0
abbrev JR:L2:=⟨[0,1,0,1,1,1,1,1,1],[(2,aG),(4,aG),(5,oz),(44,aq),(45,aq)],[],[(3,hS)],[3,6]++List.range' 45 27,0,.ret,λn=>υ5 (iL n)⟩
def Xg (i:Nat):Option (List (Nat×η)):=Κ i 14 (Ω [0,2,3,4,5,6,7,8,9,10,1,11,12]) none
abbrev T7:List (fT (Unit⊕Bool)):=[⟨[1,1,0,0,1,1,0,0,1,0,1,1,1,1,1,1],[.av 1,.code [1,1,1,0,0,1,0,1,1,1,1,1,1]],[(2,aG),(4,aG),(5,oz),(6,aq),(44,aq),(45,aq)],υ6 (Bq n)⟩]
abbrev afC:List (fT ((Bool×Sl)×Bool)):=[⟨[0,0,1,1,1,1],[.code [1,0,1,1,1,1],.code [1,1,1,1,1]],[(0,oz),(2,aG),(4,aG),(5,oz)],υ4 (iM n)⟩, ⟨[0,1,1,1,1,1],[.code [1,1,1,1,1,1]],[(2,aG),(4,aG),(5,oz)],υ3 (jZ n)⟩]
theorem T8:iJ TZp f71 (JR.e n) JR.ws:=L2.ok f71 JR n C8 (dr:=Xg) (jt:=T7) (hT:=λm _=>⟨.nil,K8 m,.nil,.nil,(.cc .nil)⟩)
abbrev C9:List aS:=⟨71,[oz],[.agg [.bool,.sl],hS],λx=>oD n x⟩::C8 n
theorem K9:aC TZp (C9 n):=.cons (aY f71 (C8 n) (ll:=[JR.e n]) (dr:=Xg) (js:=afC n) (hT:=⟨.nil,K8 n,.nil,(.cc (T8 n) .nil),(.cc (.cc .nil))⟩)) (K8 n)
def o9 (a0:ζ):M Bool:=sh (oD n a0) λx0=>L22 λx1=>sh (bD (ai x1) [.bool x0.1.1,aM x0.1.2]) λx2=>AI x0.2
abbrev C10:List aS:=⟨58,[oz],[hS],λx=>o9 n x⟩::C9 n
theorem K10:aC TZp (C10 n):=.cons (aY f58 (C9 n) (hT:=.m1 (K9 n))) (K9 n)
def qz (G:τ7)(n:Nat):τ7:=λa0 a1 a2 a3=>if decide (0<(↑a1.len:Int)) then L12 a1 (i64.wrap ((↑a1.len:Int)-1)) 1 λx0=>sh (ak (.int IntKind.u8) x0) λ(x1:Int)=>if decide (x1=0) then sh (jT a1 0 (i64.wrap ((↑a1.len:Int)-1)) gH 1) λx2=>G a0 x2 (i64.wrap (a2+1)) a3 else AI (a1,a2) else AI (a1,a2)
def j4:=lp0 qz
theorem zo:j4 (n+1)=qz (j4 n) n:=rfl
def qA (G:τ8)(n:Nat):τ8:=λa0 a1 a2 a3=>if decide (0<(↑a1.len:Int)) then L12 a1 0 1 λx0=>sh (ak (.int IntKind.u8) x0) λ(x1:Int)=>if decide (x1=0) then sh (jT a1 1 (↑a1.len:Int) gH 1) λx2=>G a0 x2 a2 a3 else AI a1 else AI a1
def j5:=lp0 qA
theorem zp:j5 (n+1)=qA (j5 n) n:=rfl
def uu (a0:Bool)(a1:Sl)(a2:Int):M (Bool×Sl×Int):=L23 λx0=>sh (j5 n a0 a1 a2 (ai x0)) λx1=>sh (j4 n a0 x1 a2 (ai x0)) λx2=>if decide ((↑x2.1.len:Int)=0) then sh (bD (ai x0) [.bool false,bF,vi 0]) λx3=>L24 (ai x0) λx4=>AI x4 else sh (vG none gH [.int IntKind.u8 0] (↑x2.1.len:Int) (↑x2.1.len:Int)) λx3=>sh (yl x3 x2.1 1) λx4=>sh (bD (ai x0) [.bool a0,aM x3,vi x2.2]) λx5=>L24 (ai x0) λx6=>AI x6
abbrev JS:L1:=⟨[0,0,1],[(0,hS),(1,bU),(2,aq),(6,aG)],[(1,bU)],[1]++List.range' 8 11,0,λn=>υ4 (j5 n)⟩
abbrev JT:L1:=⟨[0,0,1,1],[(0,hS),(1,bU),(2,aq),(6,aG)],[(1,bU),(2,aq)],[1,2]++List.range' 19 19,2,λn=>υ4 (j4 n)⟩
theorem T9:iJ TZp f88 (JT.e n) JT.ws:=L1.ok f88 JT n C10 (hT:=λm _=>.m1 (K10 m))
theorem Ua:iJ TZp f88 (JS.e n) JS.ws:=L1.ok f88 JS n C10 (hT:=λm _=>.m1 (K10 m))
abbrev C11:List aS:=⟨88,[hS,bU,aq],[.agg [.bool,.sl,.int .i64]],υ3 (uu n)⟩::C10 n
theorem K11:aC TZp (C11 n):=.cons (aY f88 (C10 n) (ll:=[JS.e n,JT.e n]) (hT:=⟨.nil,K10 n,.nil,(.cc (Ua n) (.cc (T9 n) .nil)),.nil⟩)) (K10 n)
def pM (G:τ9)(n:Nat):τ9:=λa0 a1 a2 a3=>if decide (a3<a2) then sh (jy a0 a3) λx0=>L12 a1 a3 1 λx1=>sh (bD x1 [.int IntKind.u8 (IntKind.u8.wrap ((↑x0.toNat:Int)-48))]) λx2=>G a0 a1 a2 (i64.wrap (a3+1)) else AI ()
def jx:=lp0 pM
theorem yK:jx (n+1)=pM (jx n) n:=rfl
def sP (a0:ζ):M Sl:=sh (vG none gH [.int IntKind.u8 0] (↑a0.size:Int) (↑a0.size:Int)) λx0=>sh (jx n a0 x0 (↑a0.size:Int) 0) λx1=>AI x0
abbrev JU:L1:=⟨[0,1,0,1,1],[(0,oz),(3,bU),(9,aq),(10,aq)],[],[4]++List.range' 10 11,0,λn=>υ4 (jx n)⟩
theorem Ub:iJ TZp f89 (JU.e n) JU.ws:=L1.ok f89 JU n C11 (hT:=λm _=>.m1 (K11 m))
abbrev C12:List aS:=⟨89,[oz],[bU],λx=>sP n x⟩::C11 n
theorem K12:aC TZp (C12 n):=.cons (aY f89 (C11 n) (ll:=[JU.e n]) (hT:=⟨.nil,K11 n,.nil,(.cc (Ub n) .nil),.nil⟩)) (K11 n)
def nM (n:Nat)(a0:Bool×Sl×Int):M Int:=sh (aJ none bT [.bool a0.1,aM a0.2.1,vi a0.2.2]) λx0=>L15 ((ai x0).plus 1) λx1=>if decide (400<(↑x1.len:Int)) then AI 6 else L10 ((ai x0).plus 2) λx2=>if decide (x2 < -2000) then AI 2 else L10 ((ai x0).plus 2) λx3=>if decide (2000<x3) then AI 2 else AI 0
abbrev C13:List aS:=⟨90,[.agg [.bool,.sl,.int .i64]],[aq],λx=>nM n x⟩::C12 n
theorem K13:aC TZp (C13 n):=.cons (aY f90 (C12 n) (hT:=.m1 (K12 n))) (K12 n)
def oE (n:Nat)(a0:Bool×Sl×Int):M ζ:=sh (aJ none bT [.bool a0.1,aM a0.2.1,vi a0.2.2]) λx0=>L19 ((ai x0).plus 0) λx1=>if x1 then AI (ofBytes [45]) else AI (ofBytes [])
abbrev C14:List aS:=⟨155,[.agg [.bool,.sl,.int .i64]],[oz],λx=>oE n x⟩::C13 n
theorem K14:aC TZp (C14 n):=.cons (aY f155 (C13 n) (hT:=.m1 (K13 n))) (K13 n)
def lC (G:τ10)(n:Nat):τ10:=λa0 a1 a2 a3=>if decide (a3<a2) then L12 a1 a3 1 λx0=>sh (ak (.int IntKind.u8) x0) λ(x1:Int)=>L12 a0 a3 1 λx2=>sh (bD x2 [.int IntKind.u8 (IntKind.u8.wrap (48+x1))]) λx3=>G a0 a1 a2 (i64.wrap (a3+1)) else AI ()
def fJ:=lp0 lC
theorem uY:fJ (n+1)=lC (fJ n) n:=rfl
def mw (a0:Bool×Sl×Int):M ζ:=sh (aJ none bT [.bool a0.1,aM a0.2.1,vi a0.2.2]) λx0=>L15 ((ai x0).plus 1) λx1=>sh (vG none gH [.int IntKind.u8 0] (↑x1.len:Int) (↑x1.len:Int)) λx2=>L15 ((ai x0).plus 1) λx3=>sh (fJ n x2 x3 (↑x3.len:Int) 0) λx4=>sh (strOf x2) λx5=>AI x5
abbrev Fl:L1:=⟨[0,1,0,1,1],[(3,bU),(11,bU),(12,aq),(13,aq)],[],[4,5]++List.range' 13 11,0,λn=>υ4 (fJ n)⟩
theorem PJ:iJ TZp f156 (Fl.e n) Fl.ws:=L1.ok f156 Fl n C14 (hT:=λm _=>.m1 (K14 m))
abbrev C15:List aS:=⟨156,[.agg [.bool,.sl,.int .i64]],[oz],λx=>mw n x⟩::C14 n
theorem K15:aC TZp (C15 n):=.cons (aY f156 (C14 n) (ll:=[Fl.e n]) (hT:=⟨.nil,K14 n,.nil,(.cc (PJ n) .nil),.nil⟩)) (K14 n)
def oF (a0:Bool×Sl×Int):M ζ:=sh (aJ none bT [.bool a0.1,aM a0.2.1,vi a0.2.2]) λx0=>L15 ((ai x0).plus 1) λx1=>if decide ((↑x1.len:Int)=0) then AI (ofBytes [48]) else L24 (ai x0) λx2=>L24 (ai x0) λx3=>sh (oo [some (ai x0)] (oE n x2)) λx4=>sh (mw n x3) λx5=>sh (kY x4 x5) λx6=>AI x6
def abk (i:Nat):Option (List (Nat×η)):=Κ i 3 (Ω [0,2]++[(1,[2])]++Ω [3,4,5]) none
abbrev C16:List aS:=⟨122,[.agg [.bool,.sl,.int .i64]],[oz],λx=>oF n x⟩::C15 n
theorem K16:aC TZp (C16 n):=.cons (aY f122 (C15 n) (dr:=abk) (hT:=.m1 (K15 n))) (K15 n)
def oG (a0:Bool×Sl×Int):M ζ:=sh (aJ none bT [.bool a0.1,aM a0.2.1,vi a0.2.2]) λx0=>L24 (ai x0) λx1=>L10 ((ai x0).plus 2) λx2=>sh (oo [some ((ai x0).plus 2)] (oF n x1)) λx3=>sh (kY x3 (ofBytes [101])) λx4=>sh (strconv_Itoa n x2) λx5=>sh (kY x4 x5) λx6=>AI x6
def afD (i:Nat):Option (List (Nat×η)):=Κ i 1 (Ω [3,0,4]++[(1,[4])]++Ω [2,5,6,7]) none
abbrev C17:List aS:=⟨91,[.agg [.bool,.sl,.int .i64]],[oz],λx=>oG n x⟩::C16 n
theorem K17:aC TZp (C17 n):=.cons (aY f91 (C16 n) (dr:=afD) (hT:=.m1 (K16 n))) (K16 n)
def py (a0:ζ)(a1:Addr)(a2:Int):M ((Bool×Sl×Int)×Bool):=sh (hY a0 (i64.wrap (a2+1)) (↑a0.size:Int)) λx0=>sh (strconv_Atoi n x0) λx1=>sh (kJ x1.2) λx2=>if !x2 then sh (bD a1 [.bool false,bF,vi 0]) λx3=>L24 a1 λx4=>AI (x4,false) else sh (hY a0 0 a2) λx3=>sh (strings_TrimPrefix n x3 (ofBytes [45])) λx4=>sh (eU 9) λx5=>sh (jy a0 0) λx6=>sh (aJ (some (x5+7)) bT [.bool false,bF,vi 0]) λx7=>sh (oo [none] (Aq (x5+7) (sP n x4))) λx8=>sh (oo [none] (Aq (x5+7) (uu n (decide ((↑x6.toNat:Int)=45)) x8 x1.1))) λx9=>sh (bD (ai x7) [.bool x9.1,aM x9.2.1,vi x9.2.2]) λx10=>L24 (ai x7) λx11=>L24 (ai x7) λx12=>sh (oo [some (ai x7)] (nM n x12)) λx13=>if decide (x13=0) then L24 (ai x7) λx14=>sh (oo [some (ai x7)] (oG n x14)) λx15=>sh (bD a1 [.bool x11.1,aM x11.2.1,vi x11.2.2]) λx16=>L24 a1 λx17=>AI (x17,mY x15 a0) else sh (bD a1 [.bool x11.1,aM x11.2.1,vi x11.2.2]) λx14=>L24 a1 λx15=>AI (x15,false)
def oH (a0:ζ):M ((Bool×Sl×Int)×Bool):=L23 λx0=>sh (strings_IndexByte n a0 101) λx1=>if decide (x1<0) then sh (bD (ai x0) [.bool false,bF,vi 0]) λx2=>L24 (ai x0) λx3=>AI (x3,false) else sh (hY a0 0 x1) λx2=>sh (o9 n x2) λx3=>if !x3 then sh (bD (ai x0) [.bool false,bF,vi 0]) λx4=>L24 (ai x0) λx5=>AI (x5,false) else if decide (6<i64.wrap ((↑a0.size:Int)-x1)) then sh (bD (ai x0) [.bool false,bF,vi 0]) λx4=>L24 (ai x0) λx5=>AI (x5,false) else py n a0 (ai x0) x1
def afE (i:Nat):Option (List (Nat×η)):=Κ i 8 (Ω [0,1,2,3,5,7]++[(4,[7]),(6,[7])]++Ω [8]) (Κ i 9 (Ω [0,1]++[(2,[0])]++Ω [3,4,7,5]++[(6,[0])]++Ω [8,9,10,11]) none)
abbrev afF:List (fT ((Bool×Sl×Int)×Bool)):=[⟨[0,1,1,1],[.code [1,1,1,1]],[(0,oz),(2,aG),(4,aq)],υ3 (py n)⟩]
abbrev C18:List aS:=⟨72,[oz],[.agg [.bool,.sl,.int .i64],hS],λx=>oH n x⟩::C17 n
theorem K18:aC TZp (C18 n):=.cons (aY f72 (C17 n) (dr:=afE) (js:=afF n) (hT:=⟨.nil,K17 n,.nil,.nil,(.cc .nil)⟩)) (K17 n)
def sQ (a0:ζ):M Bool:=sh (oH n a0) λx0=>L23 λx1=>sh (bD (ai x1) [.bool x0.1.1,aM x0.1.2.1,vi x0.1.2.2]) λx2=>AI x0.2
abbrev C19:List aS:=⟨59,[oz],[hS],λx=>sQ n x⟩::C18 n
theorem K19:aC TZp (C19 n):=.cons (aY f59 (C18 n) (hT:=.m1 (K18 n))) (K18 n)
def GS:M (Nat):=sh (cV n 9221120237041090561) λx0=>AI x0
abbrev C20:List aS:=⟨93,[],[.one (.f64)],λ_=>GS n⟩::C19 n
theorem K20:aC TZp (C20 n):=.cons (aY f93 (C19 n) (hT:=.m1 (K19 n))) (K19 n)
def zr (a0:Int):M (Nat):=if decide (0<=a0) then sh (cV n 9218868437227405312) λx0=>AI x0 else sh (cV n 18442240474082181120) λx0=>AI x0
abbrev C21:List aS:=⟨94,[aq],[.one (.f64)],λx=>zr n x⟩::C20 n
theorem K21:aC TZp (C21 n):=.cons (aY f94 (C20 n) (hT:=.m1 (K20 n))) (K20 n)
def qB (a0 a1:ζ):M (ζ×ζ×Bool):=sh (iW n a0 a1) λx0=>if decide (0<=x0) then sh (hY a0 0 x0) λx1=>sh (hY a0 (i64.wrap (x0+(↑a1.size:Int))) (↑a0.size:Int)) λx2=>AI (x1,x2,true) else AI (a0,(ofBytes []),false)
def abl (i:Nat):Option (List (Nat×η)):=Κ i 3 (Ω [0,1,2,3,4,5,6,7,8,9,10,11]) none
abbrev C22:List aS:=⟨126,[oz,oz],[oz,oz,hS],υ2 (qB n)⟩::C21 n
theorem K22:aC TZp (C22 n):=.cons (aY f126 (C21 n) (dr:=abl) (hT:=.m1 (K21 n))) (K21 n)
def strings_Cut (a0 a1:ζ):M (ζ×ζ×Bool):=sh (qB n a0 a1) λx0=>AI x0
abbrev C23:List aS:=⟨95,[oz,oz],[oz,oz,hS],υ2 (strings_Cut n)⟩::C22 n
theorem K23:aC TZp (C23 n):=.cons (aY f95 (C22 n) (hT:=.m1 (K22 n))) (K22 n)
def nZ (a0 a1:Int):M Bool:=sh (fP n a0) λx0=>sh (ou (decide (2≠0))) λx1=>if decide (a0.tmod 2=1) then if decide (x0<=53) then if decide (-1074<=a1) then if decide (a1<=1023) then AI (decide (i64.wrap (a1+x0)<=1024)) else AI false else AI false else AI false else AI false
abbrev C24:List aS:=⟨97,[.one (.int .u64),aq],[hS],υ2 (nZ n)⟩::C23 n
theorem K24:aC TZp (C24 n):=.cons (aY f97 (C23 n) (hT:=.m1 (K23 n))) (K23 n)
def nh (n a0 a1:Nat):M (Nat):=sh (eY n a0) λx0=>sh (eY n a1) λx1=>sh (cV n (IntKind.u64.wrap (↑(BitVec.ofInt 64 (IntKind.u64.wrap (↑(BitVec.ofInt 64 x0&&&~~~BitVec.ofInt 64 9223372036854775808).toNat:Int))|||BitVec.ofInt 64 (IntKind.u64.wrap (↑(BitVec.ofInt 64 x1&&&BitVec.ofInt 64 9223372036854775808).toNat:Int))).toNat:Int))) λx2=>AI x2
abbrev C25:List aS:=⟨100,[.one (.f64),.one (.f64)],[.one (.f64)],υ2 (nh n)⟩::C24 n
theorem K25:aC TZp (C25 n):=.cons (aY f100 (C24 n) (hT:=.m1 (K24 n))) (K24 n)
def zu (n a0:Nat):M (Nat):=sh (eY n a0) λx0=>sh (cV n (IntKind.u64.wrap (↑(BitVec.ofInt 64 x0&&&~~~BitVec.ofInt 64 9223372036854775808).toNat:Int))) λx1=>AI x1
abbrev C26:List aS:=⟨163,[.one (.f64)],[.one (.f64)],λx=>zu n x⟩::C25 n
theorem K26:aC TZp (C26 n):=.cons (aY f163 (C25 n) (hT:=.m1 (K25 n))) (K25 n)
def xK (n a0:Nat)(a1:Int):M Bool:=if decide (a1=0) then sh (zu n a0) λx0=>AI (fGt x0 9218868437227405311) else if decide (a1<0) then AI (fGt (afb a0) 9218868437227405311) else AI (fGt a0 9218868437227405311)
abbrev C27:List aS:=⟨131,[.one (.f64),aq],[hS],υ2 (xK n)⟩::C26 n
theorem K27:aC TZp (C27 n):=.cons (aY f131 (C26 n) (hT:=.m1 (K26 n))) (K26 n)
def GX (n a0:Nat):M Bool:=AI !HV a0 a0
abbrev C28:List aS:=⟨161,[.one (.f64)],[hS],λx=>GX n x⟩::C27 n
theorem K28:aC TZp (C28 n):=.cons (aY f161 (C27 n) (hT:=.m1 (K27 n))) (K27 n)
def uZ (n a0:Nat):M (Nat×Int):=sh (zu n a0) λx0=>if fLt x0 4503599627370496 then sh (MC a0 4841369599423283200) λx1=>AI (x1,-52) else AI (a0,0)
abbrev C29:List aS:=⟨162,[.one (.f64)],[.one (.f64),aq],λx=>uZ n x⟩::C28 n
theorem K29:aC TZp (C29 n):=.cons (aY f162 (C28 n) (hT:=.m1 (K28 n))) (K28 n)
def sR (a0 a1:Int)(a2:Nat):M (Nat):=sh (ou (decide (0<=52))) λx0=>sh (cV n (IntKind.u64.wrap (↑(BitVec.ofInt 64 (IntKind.u64.wrap (↑(BitVec.ofInt 64 a1&&&~~~BitVec.ofInt 64 9218868437227405312).toNat:Int))|||BitVec.ofInt 64 (IntKind.u64.wrap (IntKind.u64.wrap (i64.wrap (a0+1023))*2^52))).toNat:Int))) λx1=>sh (MC a2 x1) λx2=>AI x2
def A4 (n a0:Nat)(a1:Int):M (Nat):=sh (uZ n a0) λx0=>sh (eY n x0.1) λx1=>sh (ou (decide (0<=52))) λx2=>if decide (i64.wrap (i64.wrap (a1+x0.2)+i64.wrap (i64.wrap (↑(BitVec.ofInt 64 (i64.wrap (Int.fdiv x1 (2^52)))&&&BitVec.ofInt 64 2047).toNat:Int)-1023)) < -1075) then sh (nh n 0 x0.1) λx3=>AI x3 else if decide (1023<i64.wrap (i64.wrap (a1+x0.2)+i64.wrap (i64.wrap (↑(BitVec.ofInt 64 (i64.wrap (Int.fdiv x1 (2^52)))&&&BitVec.ofInt 64 2047).toNat:Int)-1023))) then if fLt x0.1 0 then sh (zr n (-1)) λx3=>AI x3 else sh (zr n 1) λx3=>AI x3 else if decide (i64.wrap (i64.wrap (a1+x0.2)+i64.wrap (i64.wrap (↑(BitVec.ofInt 64 (i64.wrap (Int.fdiv x1 (2^52)))&&&BitVec.ofInt 64 2047).toNat:Int)-1023)) < -1022) then sR n (i64.wrap (i64.wrap (i64.wrap (a1+x0.2)+i64.wrap (i64.wrap (↑(BitVec.ofInt 64 (i64.wrap (Int.fdiv x1 (2^52)))&&&BitVec.ofInt 64 2047).toNat:Int)-1023))+53)) x1 4368491638549381120 else sR n (i64.wrap (i64.wrap (a1+x0.2)+i64.wrap (i64.wrap (↑(BitVec.ofInt 64 (i64.wrap (Int.fdiv x1 (2^52)))&&&BitVec.ofInt 64 2047).toNat:Int)-1023))) x1 4607182418800017408
def GY (n a0:Nat)(a1:Int):M (Nat):=if HV a0 0 then AI a0 else sh (xK n a0 0) λx0=>if x0 then AI a0 else sh (GX n a0) λx1=>if x1 then AI a0 else A4 n a0 a1
abbrev abm:List (fT (Nat)):=[⟨[0,1,1],[.code [1,1,1]],[(0,.one (.f64)),(1,aq)],υ2 (A4 n)⟩, ⟨[0,1,1,1,1,1,1,1,1,1,1],[.code [1,1,1,1,1,1,1,1,1,1,1]],[(1,aq),(6,.one (.int .u64)),(7,.one (.f64))],υ3 (sR n)⟩]
abbrev C30:List aS:=⟨129,[.one (.f64),aq],[.one (.f64)],υ2 (GY n)⟩::C29 n
theorem K30:aC TZp (C30 n):=.cons (aY f129 (C29 n) (js:=abm n) (hT:=⟨.nil,K29 n,.nil,.nil,(.cc (.cc .nil))⟩)) (K29 n)
def Br (n a0:Nat)(a1:Int):M (Nat):=sh (GY n a0 a1) λx0=>AI x0
abbrev C31:List aS:=⟨98,[.one (.f64),aq],[.one (.f64)],υ2 (Br n)⟩::C30 n
theorem K31:aC TZp (C31 n):=.cons (aY f98 (C30 n) (hT:=.m1 (K30 n))) (K30 n)
def xL (n a0:Nat):M Bool:=sh (eY n a0) λx0=>AI (decide (i64.wrap x0<0))
abbrev C32:List aS:=⟨130,[.one (.f64)],[hS],λx=>xL n x⟩::C31 n
theorem K32:aC TZp (C32 n):=.cons (aY f130 (C31 n) (hT:=.m1 (K31 n))) (K31 n)
def pz (a0 a1:Int):M (Int×Int):=sh (cP n a0) λx0=>sh (ou (decide (0<=x0))) λx1=>AI (a0.fdiv (2^min (Int.toNat x0) 64),i64.wrap (i64.wrap (a1-1075)+x0))
def xM (n a0:Nat):M (Int×Int):=sh (zu n a0) λx0=>sh (eY n x0) λx1=>sh (ou (decide (0<=52))) λx2=>if decide (i64.wrap (Int.fdiv x1 (2^52))=0) then pz n (IntKind.u64.wrap (↑(BitVec.ofInt 64 x1&&&BitVec.ofInt 64 4503599627370495).toNat:Int)) 1 else pz n (IntKind.u64.wrap (↑(BitVec.ofInt 64 (IntKind.u64.wrap (↑(BitVec.ofInt 64 x1&&&BitVec.ofInt 64 4503599627370495).toNat:Int))|||BitVec.ofInt 64 4503599627370496).toNat:Int)) (i64.wrap (Int.fdiv x1 (2^52)))
abbrev abn:List (fT (Int×Int)):=[⟨[0,1,1,1,1],[.code [1,1,1,1,1]],[(5,.one (.int .u64)),(6,aq)],υ2 (pz n)⟩]
abbrev C33:List aS:=⟨132,[.one (.f64)],[.one (.int .u64),aq],λx=>xM n x⟩::C32 n
theorem K33:aC TZp (C33 n):=.cons (aY f132 (C32 n) (js:=abn n) (hT:=⟨.nil,K32 n,.nil,.nil,(.cc .nil)⟩)) (K32 n)
def pN (a0 a1:Int):M ζ:=sh (fY n a0 a1) λx0=>AI x0
abbrev C34:List aS:=⟨133,[.one (.int .u64),aq],[oz],υ2 (pN n)⟩::C33 n
theorem K34:aC TZp (C34 n):=.cons (aY f133 (C33 n) (hT:=.m1 (K33 n))) (K33 n)
def qC (n a0:Nat)(a1:ζ):M ζ:=if !HV a0 a0 then AI (ofBytes [110,97,110]) else sh (xK n a0 0) λx0=>if x0 then sh (kY a1 (ofBytes [105,110,102])) λx1=>AI x1 else if HV a0 0 then sh (kY a1 (ofBytes [48,112,48])) λx1=>AI x1 else sh (xM n a0) λx1=>sh (pN n x1.1 10) λx2=>sh (kY a1 x2) λx3=>sh (kY x3 (ofBytes [112])) λx4=>sh (strconv_Itoa n x1.2) λx5=>sh (kY x4 x5) λx6=>AI x6
def zw (n a0:Nat):M ζ:=sh (xL n a0) λx0=>if x0 then qC n a0 (ofBytes [45]) else qC n a0 (ofBytes [])
abbrev afG:List (fT ζ):=[⟨[0,0,0,1,1,1],[.code [1,0,0,1,1,1],.av 0,.code [1,1,1,1]],[(0,.one (.f64)),(3,oz)],υ2 (qC n)⟩]
abbrev C35:List aS:=⟨99,[.one (.f64)],[oz],λx=>zw n x⟩::C34 n
theorem K35:aC TZp (C35 n):=.cons (aY f99 (C34 n) (js:=afG n) (hT:=⟨.nil,K34 n,.nil,.nil,(.cc .nil)⟩)) (K34 n)
def iN (a0:ζ)(a1:Bool)(a2 a3:Int):M (Nat×Bool):=sh (Br n (V8 a2) a3) λx0=>sh (zw n x0) λx1=>if !mY x1 a0 then AI (0,false) else if a1 then sh (nh n x0 13830554455654793216) λx2=>AI (x2,true) else AI (x0,true)
def mz (a0:ζ):M (Nat×Bool):=sh (strings_CutPrefix n a0 (ofBytes [45])) λx0=>if mY a0 (ofBytes [110,97,110]) then sh (GS n) λx1=>AI (x1,true) else if mY x0.1 (ofBytes [105,110,102]) then sh (zr n 1) λx1=>if x0.2 then sh (nh n x1 13830554455654793216) λx2=>AI (x2,true) else AI (x1,true) else if mY x0.1 (ofBytes [48,112,48]) then if x0.2 then sh (nh n 0 13830554455654793216) λx1=>AI (x1,true) else AI (0,true) else sh (strings_Cut n x0.1 (ofBytes [112])) λx1=>sh (fC n x1.1 10 64) λx2=>sh (strconv_Atoi n x1.2.1) λx3=>if !x1.2.2 then AI (0,false) else sh (kJ x2.2) λx4=>if !x4 then AI (0,false) else sh (kJ x3.2) λx5=>if !x5 then AI (0,false) else sh (nZ n x2.1 x3.1) λx6=>if !x6 then AI (0,false) else iN n x0.1 x0.2 x2.1 x3.1
abbrev afH:List (fT (Nat×Bool)):=[⟨[0,1,1,1,1,1,1,1,1,1,1,0,0,1,1,1],[.code [1,1,1,1,1,1,1,1,1,1,1,0,0,1,1,1],.av 0,.code [1,1,1,1]],[(4,oz),(5,hS),(10,.one (.int .u64)),(12,aq)],υ4 (iN n)⟩]
abbrev C36:List aS:=⟨73,[oz],[.one (.f64),hS],λx=>mz n x⟩::C35 n
theorem K36:aC TZp (C36 n):=.cons (aY f73 (C35 n) (js:=afH n) (hT:=⟨.nil,K35 n,.nil,.nil,(.cc .nil)⟩)) (K35 n)
def qD (a0:ζ):M Bool:=sh (mz n a0) λx0=>AI x0.2
abbrev C37:List aS:=⟨60,[oz],[hS],λx=>qD n x⟩::C36 n
theorem K37:aC TZp (C37 n):=.cons (aY f60 (C36 n) (hT:=.m1 (K36 n))) (K36 n)
def mA (G:Addr->Addr->Int->Int->Int->M (Int⊕(Int×Bool)))(n:Nat)(a0 a1:Addr)(a2 a3 a4:Int):M (Int⊕(Int×Bool)):=L11 a1 λx0=>L10 a0 λx1=>sh (jy x0 x1) λx2=>L10 a0 λx3=>sh (bD a0 [vi (i64.wrap (x3+1))]) λx4=>G a0 a1 (i64.wrap (i64.wrap (10*a2)+i64.wrap (IntKind.u8.wrap ((↑x2.toNat:Int)-48)))) a3 (i64.wrap (a4+1))
def iX (G:τ11)(n:Nat):τ11:=λa0 a1 a2 a3 a4=>if decide (a4<a3) then L10 a0 λx0=>L11 a1 λx1=>if decide ((↑(ByteArray.size x1):Int)<=x0) then AI (Sum.inr (0,false)) else L11 a1 λx2=>L10 a0 λx3=>sh (jy x2 x3) λx4=>if decide ((↑x4.toNat:Int)<48) then AI (Sum.inr (0,false)) else L11 a1 λx5=>L10 a0 λx6=>sh (jy x5 x6) λx7=>if decide (57<(↑x7.toNat:Int)) then AI (Sum.inr (0,false)) else mA G n a0 a1 a2 a3 a4 else AI (Sum.inl a2)
def gw:=lp0 iX
def zA:=mA (gw n) n
def lD (a0:Int)(a1 a2:Addr):M (Int×Bool):=sh (gw n a1 a2 0 a0 0) (bu (λx0=>AI (x0,true)) (λx0=>AI x0))
abbrev Xu:aS:=⟨102,[aq,aG,aG],[aq,hS],υ3 (lD n)⟩
abbrev Fm:L2:=⟨[0,1,0,1,1],[(1,aG),(2,aG),(6,aq),(7,aq),(8,aq)],[(6,aq)],[(4,aq),(5,hS)],[4,5,6]++List.range' 8 29,0,.ret,λn=>υ5 (gw n)⟩
abbrev PK:List (fT (Int⊕(Int×Bool))):=[⟨[0,1,0,0,1,1,0,0,1,0,1,1],[.code [1,1,0,0,1,1,0,0,1,0,1,1],.av 1,.code [1,1,1,0,0,1,0,1,1]],[(1,aG),(2,aG),(6,aq),(7,aq),(8,aq)],υ5 (zA n)⟩]
theorem PL:iJ TZp f102 (Fm.e n) Fm.ws:=L2.ok f102 Fm n C37 (jt:=PK) (hT:=λm _=>⟨.nil,K37 m,.nil,.nil,(.cc .nil)⟩)
theorem vM:aF TZp (Xu n):=aY f102 (C37 n) (ll:=[Fm.e n]) (hT:=⟨.nil,K37 n,.nil,(.cc (PL n) .nil),.nil⟩)
abbrev C38:List aS:=Xu n::C37 n
theorem K38:aC TZp (C38 n):=.cons (vM n) (K37 n)
def jF (x:ξ)(a0:Int):M (Int×Bool):=if pG oA x then sh (nU [aG,aG] x) λ(c:Addr×Addr)=>lD n a0 c.1 c.2 else AS
def dO (G:Sl->Int->Int->Addr->Addr->Addr->Int->Int->M (Unit⊕Bool))(n:Nat)(a0:Sl)(a1 a2:Int)(a3 a4 a5:Addr)(a6 a7 a8 a9:Int):M (Unit⊕Bool):=L18 a5 λx0=>sh (jF n x0 a7) λx1=>if !x1.2 then AI (Sum.inr false) else L12 a0 a6 1 λx2=>sh (bD x2 [vi x1.1]) λx3=>G a0 a1 a2 a3 a4 a5 a8 (i64.wrap (a9+1))
def iY (G:τ12)(n:Nat):τ12:=λa0 a1 a2 a3 a4 a5 a6 a7=>if decide (a7<a6) then if decide (0<a7) then L10 a3 λx0=>L11 a4 λx1=>if decide ((↑(ByteArray.size x1):Int)<=x0) then AI (Sum.inr false) else L11 a4 λx2=>L10 a3 λx3=>sh (jy x2 x3) λx4=>if !decide ((↑x4.toNat:Int)=a2) then AI (Sum.inr false) else L10 a3 λx5=>sh (bD a3 [vi (i64.wrap (x5+1))]) λx6=>if decide (a7=0) then dO G n a0 a1 a2 a3 a4 a5 a7 a1 a6 a7 else dO G n a0 a1 a2 a3 a4 a5 a7 2 a6 a7 else if decide (a7=0) then dO G n a0 a1 a2 a3 a4 a5 a7 a1 a6 a7 else dO G n a0 a1 a2 a3 a4 a5 a7 2 a6 a7 else AI (Sum.inl ())
def fD:=lp0 iY
def zB:=dO (fD n) n
def eK (a0:Sl)(a1 a2:Int)(a3 a4 a5:Addr):M Bool:=sh (fD n a0 a1 a2 a3 a4 a5 (↑a0.len:Int) 0) (bu (λx0=>AI true) (λx0=>AI x0))
abbrev Xv:aS:=⟨103,[bU,aq,.one (.int .u8),aG,aG,aG],[hS],υ6 (eK n)⟩
abbrev Fo:L2:=⟨[0,1,0,1],[(0,bU),(1,aq),(2,.one (.int .u8)),(3,aG),(4,aG),(5,aG),(15,aq),(16,aq)],[],[(9,hS)],List.range' 9 5++List.range' 16 34,0,.ret,λn=>υ8 (fD n)⟩
abbrev JV:List jV:=[⟨38,[aq],[aq,hS],λx a=>jF n x a⟩]
abbrev PM:List (fT (Unit⊕Bool)):=[⟨[0,1,1,1,1,0,0,1,1,0,0,1,0,1],[.code [1,1,1,1,1,0,0,1,1,0,0,1,0,1],.av 1,.code [1,1,1,0,0,1,0,1]],[(0,bU),(1,aq),(2,.one (.int .u8)),(3,aG),(4,aG),(5,aG),(10,aq),(11,aq),(15,aq),(16,aq)],υ10 (zB n)⟩]
theorem RV:qc TZp (JV n):=.cons (dB (l:=[⟨102,[aG,aG],λa c=>lD n a c.1 c.2⟩]) (.cons (λa c=>aL (by kernel_rfl) ((vM n) (a,c.1,c.2))) .nil) (λx a=>by kernel_rfl)) .nil
theorem PN:iJ TZp f103 (Fo.e n) Fo.ws:=L2.ok f103 Fo n C38 (dt:=JV) (jt:=PM) (hT:=λm _=>⟨.nil,K38 m,(RV m),.nil,(.cc .nil)⟩)
theorem nN:aF TZp (Xv n):=aY f103 (C38 n) (dl:=JV n) (ll:=[Fo.e n]) (hT:=⟨.nil,K38 n,(RV n),(.cc (PN n) .nil),.nil⟩)
abbrev C39:List aS:=Xv n::C38 n
theorem K39:aC TZp (C39 n):=.cons (nN n) (K38 n)
def rX (x:ξ)(a0:Sl)(a1 a2:Int):M Bool:=if pG dD x then sh (nU [aG,aG,aG] x) λ(c:Addr×Addr×Addr)=>eK n a0 a1 a2 c.1 c.2.1 c.2.2 else AS
def rY (x:ξ)(a0:Sl)(a1 a2:Int):M Bool:=if pG dD x then sh (nU [aG,aG,aG] x) λ(c:Addr×Addr×Addr)=>eK n a0 a1 a2 c.1 c.2.1 c.2.2 else AS
def kC (x:ξ)(a0:Sl)(a1 a2:Int):M Bool:=if pG dD x then sh (nU [aG,aG,aG] x) λ(c:Addr×Addr×Addr)=>eK n a0 a1 a2 c.1 c.2.1 c.2.2 else AS
def kD (G:τ13)(n:Nat):τ13:=λa0 a1 a2 a3 a4 a5=>if decide (a5<9) then L10 (a2.plus 9) λx0=>sh (bD (a2.plus 9) [vi (i64.wrap (x0*10))]) λx1=>G a0 a1 a2 a3 a4 (i64.wrap (a5+1)) else AI ()
def j6:=lp0 kD
def n7 (G:Addr->Addr->Addr->Addr->ξ->Int->M Int)(n:Nat)(a0 a1 a2 a3:Addr)(a4:ξ)(a5:Int):M Int:=L10 (a2.plus 9) λx0=>L11 a0 λx1=>L10 a3 λx2=>sh (jy x1 x2) λx3=>sh (bD (a2.plus 9) [vi (i64.wrap (i64.wrap (10*x0)+i64.wrap (IntKind.u8.wrap ((↑x3.toNat:Int)-48))))]) λx4=>L10 a3 λx5=>sh (bD a3 [vi (i64.wrap (x5+1))]) λx6=>G a0 a1 a2 a3 a4 (i64.wrap (a5+1))
def kE (G:τ14)(n:Nat):τ14:=λa0 a1 a2 a3 a4 a5=>if decide (a5<9) then L10 a3 λx0=>L11 a0 λx1=>if decide (x0<(↑(ByteArray.size x1):Int)) then L11 a0 λx2=>L10 a3 λx3=>sh (jy x2 x3) λx4=>if decide (48<=(↑x4.toNat:Int)) then L11 a0 λx5=>L10 a3 λx6=>sh (jy x5 x6) λx7=>if decide ((↑x7.toNat:Int)<=57) then n7 G n a0 a1 a2 a3 a4 a5 else AI a5 else AI a5 else AI a5 else AI a5
def iO:=lp0 kE
def Bs:=n7 (iO n) n
def pA (a0 a1 a2 a3:Addr)(a4:ξ):M ((J11)×Bool):=L11 a0 λx0=>L10 a3 λx1=>sh (jy x0 x1) λx2=>sh (bD (a2.plus 10) [.int IntKind.u8 (↑x2.toNat:Int)]) λx3=>L10 a3 λx4=>sh (bD a3 [vi (i64.wrap (x4+1))]) λx5=>sh (ak (.int IntKind.u8) (a2.plus 10)) λ(x6:Int)=>if decide (x6=90) then L25 a2 λx7=>L10 a3 λx8=>L11 a0 λx9=>sh (oo [some a3,some a0] (bD a1 (V11 x7))) λx10=>L25 a1 λx11=>AI (x11,decide (x8=(↑(ByteArray.size x9):Int))) else sh (ak (.int IntKind.u8) (a2.plus 10)) λ(x7:Int)=>if !decide (x7=43) then sh (ak (.int IntKind.u8) (a2.plus 10)) λ(x8:Int)=>if !decide (x8=45) then L25 a2 λx9=>sh (bD a1 (V11 x9)) λx10=>L25 a1 λx11=>AI (x11,false) else sh (nr (a2.plus 1) 8 6 8 1) λx9=>sh (kC n a4 x9 2 58) λx10=>if !x10 then L25 a2 λx11=>sh (bD a1 (V11 x11)) λx12=>L25 a1 λx13=>AI (x13,false) else L25 a2 λx11=>L10 a3 λx12=>L11 a0 λx13=>sh (oo [some a3,some a0] (bD a1 (V11 x11))) λx14=>L25 a1 λx15=>AI (x15,decide (x12=(↑(ByteArray.size x13):Int))) else sh (nr (a2.plus 1) 8 6 8 1) λx8=>sh (kC n a4 x8 2 58) λx9=>if !x9 then L25 a2 λx10=>sh (bD a1 (V11 x10)) λx11=>L25 a1 λx12=>AI (x12,false) else L25 a2 λx10=>L10 a3 λx11=>L11 a0 λx12=>sh (oo [some a3,some a0] (bD a1 (V11 x10))) λx13=>L25 a1 λx14=>AI (x14,decide (x11=(↑(ByteArray.size x12):Int)))
def j7 (a0 a1 a2 a3:Addr)(a4:ξ):M ((J11)×Bool):=L10 a3 λx0=>L11 a0 λx1=>if decide (x0<(↑(ByteArray.size x1):Int)) then L10 (a2.plus 0) λx2=>if decide (x2=3) then pA n a0 a1 a2 a3 a4 else L25 a2 λx3=>L10 a3 λx4=>L11 a0 λx5=>sh (oo [some a3,some a0] (bD a1 (V11 x3))) λx6=>L25 a1 λx7=>AI (x7,decide (x4=(↑(ByteArray.size x5):Int))) else L25 a2 λx2=>L10 a3 λx3=>L11 a0 λx4=>sh (oo [some a3,some a0] (bD a1 (V11 x2))) λx5=>L25 a1 λx6=>AI (x6,decide (x3=(↑(ByteArray.size x4):Int)))
def pB (a0 a1 a2 a3:Addr)(a4:ξ):M ((J11)×Bool):=L10 a3 λx0=>sh (bD a3 [vi (i64.wrap (x0+1))]) λx1=>sh (iO n a0 a1 a2 a3 a4 0) λx2=>if decide (x2=0) then L25 a2 λx3=>sh (bD a1 (V11 x3)) λx4=>L25 a1 λx5=>AI (x5,false) else sh (j6 n a0 a1 a2 a3 a4 x2) λx3=>j7 n a0 a1 a2 a3 a4
def fQ (a0 a1 a2 a3:Addr)(a4:ξ):M ((J11)×Bool):=sh (nr (a2.plus 1) 8 3 6 1) λx0=>sh (rY n a4 x0 2 58) λx1=>if !x1 then L25 a2 λx2=>sh (bD a1 (V11 x2)) λx3=>L25 a1 λx4=>AI (x4,false) else L10 (a2.plus 0) λx2=>sh (bD (a2.plus 0) [vi (i64.wrap (x2+2))]) λx3=>L10 a3 λx4=>L11 a0 λx5=>if decide (x4<(↑(ByteArray.size x5):Int)) then L11 a0 λx6=>L10 a3 λx7=>sh (jy x6 x7) λx8=>if decide ((↑x8.toNat:Int)=46) then pB n a0 a1 a2 a3 a4 else j7 n a0 a1 a2 a3 a4 else j7 n a0 a1 a2 a3 a4
def mT (a0 a1 a2 a3:Addr)(a4:ξ):M ((J11)×Bool):=sh (nr (a2.plus 1) 8 0 3 1) λx0=>sh (rX n a4 x0 4 45) λx1=>if !x1 then L25 a2 λx2=>sh (bD a1 (V11 x2)) λx3=>L25 a1 λx4=>AI (x4,false) else sh (bD (a2.plus 0) [vi 1]) λx2=>L10 a3 λx3=>L11 a0 λx4=>if decide (x3=(↑(ByteArray.size x4):Int)) then L25 a2 λx5=>sh (bD a1 (V11 x5)) λx6=>L25 a1 λx7=>AI (x7,true) else L11 a0 λx5=>L10 a3 λx6=>sh (jy x5 x6) λx7=>if !decide ((↑x7.toNat:Int)=84) then L11 a0 λx8=>L10 a3 λx9=>sh (jy x8 x9) λx10=>if !decide ((↑x10.toNat:Int)=32) then L25 a2 λx11=>sh (bD a1 (V11 x11)) λx12=>L25 a1 λx13=>AI (x13,false) else L10 a3 λx11=>sh (bD a3 [vi (i64.wrap (x11+1))]) λx12=>fQ n a0 a1 a2 a3 a4 else L10 a3 λx8=>sh (bD a3 [vi (i64.wrap (x8+1))]) λx9=>fQ n a0 a1 a2 a3 a4
def mB (a0:ζ):M ((J11)×Bool):=sh (aJ none NH [.string a0]) λx0=>L26 λx1=>L26 λx2=>L27 λx3=>sh (bD (ai x3) [vi 0]) λx4=>sh (aJ none uW [Value.nilFunc]) λx5=>sh (bD (ai x5) [.func (Fn.func oA) #[] #[.pointer (some (ai x3)),.pointer (some (ai x0))]]) λx6=>L11 (ai x0) λx7=>if decide (2<(↑(ByteArray.size x7):Int)) then L11 (ai x0) λx8=>sh (jy x8 2) λx9=>if !decide ((↑x9.toNat:Int)=58) then mT n (ai x0) (ai x1) (ai x2) (ai x3) (Value.func (Fn.func dD) #[] #[.pointer (some (ai x3)),.pointer (some (ai x0)),.pointer (some (ai x5))]) else fQ n (ai x0) (ai x1) (ai x2) (ai x3) (Value.func (Fn.func dD) #[] #[.pointer (some (ai x3)),.pointer (some (ai x0)),.pointer (some (ai x5))]) else fQ n (ai x0) (ai x1) (ai x2) (ai x3) (Value.func (Fn.func dD) #[] #[.pointer (some (ai x3)),.pointer (some (ai x0)),.pointer (some (ai x5))])
abbrev JW:L1:=⟨[0,0,1,1,0,1,0,1,1,1,1,1,1,1,1],[(1,aG),(2,aG),(4,aG),(5,aG),(7,s9),(8,aq)],[(8,aq)],[8]++List.range' 66 34,0,λn=>υ6 (iO n)⟩
abbrev JX:L1:=⟨[0,1,1,1,1,0,1,0,1,1,1,1,1,1,1,1],[(1,aG),(2,aG),(4,aG),(5,aG),(7,s9),(8,aq)],[],[8]++List.range' 103 8,2,λn=>υ6 (j6 n)⟩
abbrev JY:List jV:=[⟨19,[bU,aq,.one (.int .u8)],[hS],λx a=>rX n x a.1 a.2.1 a.2.2⟩, ⟨44,[bU,aq,.one (.int .u8)],[hS],λx a=>rY n x a.1 a.2.1 a.2.2⟩, ⟨143,[bU,aq,.one (.int .u8)],[hS],λx a=>kC n x a.1 a.2.1 a.2.2⟩]
def PO (i:Nat):Option (List (Nat×η)):=Κ i 21 (Ω [0,1,2,3,4,5,6,7,8,9,10]) (Κ i 33 (Ω [0,1,2,3,4]++[(5,[1,2])]++Ω [6]) (Κ i 36 (Ω [0,1,2,3,4]++[(5,[1,2])]++Ω [6]) none))
abbrev Uc:List (fT Int):=[⟨[0,0,1,0,0,0,1,1,0,1,0,1,1,1,1,1,1,1,1],[.code [1,0,1,0,0,0,1,1,0,1,0,1,1,1,1,1,1,1,1],.av 1],[(1,aG),(2,aG),(4,aG),(5,aG),(7,s9),(8,aq)],υ6 (Bs n)⟩]
abbrev afI:List (fT ((J11)×Bool)):=[⟨[0,0,0,1,0,1,1,1,1,1],[.code [1,0,0,1,0,1,1,1,1,1],.code [1,0,1,0,1,1,1,1,1],.code [1,1,1,1,1,1]],[(1,aG),(2,aG),(4,aG),(5,aG),(7,s9)],υ5 (mT n)⟩, ⟨[0,0,1,1,1,1,1,1],[.code [1,0,1,1,1,1,1,1],.code [1,1,1,1,1,1,1]],[(1,aG),(2,aG),(4,aG),(5,aG),(7,s9)],υ5 (fQ n)⟩, ⟨[0,0,1,0,1,1,1,1,1,1,1,1],[.code [1,0,1,0,1,1,1,1,1,1,1,1],.code [1,1,1,1,1,1,1,1,1]],[(1,aG),(2,aG),(4,aG),(5,aG),(7,s9)],υ5 (pB n)⟩, ⟨[0,0,1,1,1,1,1,1,1,1,1],[.code [1,0,1,1,1,1,1,1,1,1,1],.code [1,1,1,1,1,1,1,1,1,1]],[(1,aG),(2,aG),(4,aG),(5,aG),(7,s9)],υ5 (j7 n)⟩, ⟨[0,0,1,0,1,1,1,1,1,1,1,1,1],[.code [1,0,1,0,1,1,1,1,1,1,1,1,1],.code [1,1,1,1,1,1,1,1,1,1]],[(1,aG),(2,aG),(4,aG),(5,aG),(7,s9)],υ5 (pA n)⟩]
theorem PQ:qc TZp (JY n):=.cons (dB (l:=[⟨103,[aG,aG,aG],λa c=>eK n a.1 a.2.1 a.2.2 c.1 c.2.1 c.2.2⟩]) (.cons (λa c=>aL (by kernel_rfl) ((nN n) (a.1,a.2.1,a.2.2,c.1,c.2.1,c.2.2))) .nil) (λx a=>by kernel_rfl)) (.cons (dB (l:=[⟨103,[aG,aG,aG],λa c=>eK n a.1 a.2.1 a.2.2 c.1 c.2.1 c.2.2⟩]) (.cons (λa c=>aL (by kernel_rfl) ((nN n) (a.1,a.2.1,a.2.2,c.1,c.2.1,c.2.2))) .nil) (λx a=>by kernel_rfl)) (.cons (dB (l:=[⟨103,[aG,aG,aG],λa c=>eK n a.1 a.2.1 a.2.2 c.1 c.2.1 c.2.2⟩]) (.cons (λa c=>aL (by kernel_rfl) ((nN n) (a.1,a.2.1,a.2.2,c.1,c.2.1,c.2.2))) .nil) (λx a=>by kernel_rfl)) .nil))
theorem Ud:iJ TZp f75 (JX.e n) JX.ws:=L1.ok f75 JX n C39 (dt:=JY) (dr:=PO) (hT:=λm _=>⟨.nil,K39 m,(PQ m),.nil,.nil⟩)
theorem Ue:iJ TZp f75 (JW.e n) JW.ws:=L1.ok f75 JW n C39 (dt:=JY) (dr:=PO) (jt:=Uc) (hT:=λm _=>⟨.nil,K39 m,(PQ m),.nil,(.cc .nil)⟩)
abbrev C40:List aS:=⟨75,[oz],[.agg [.int .i64,.int .i64,.int .i64,.int .i64,.int .i64,.int .i64,.int .i64,.int .i64,.int .i64,.int .i64,.int .u8],hS],λx=>mB n x⟩::C39 n
theorem K40:aC TZp (C40 n):=.cons (aY f75 (C39 n) (dl:=JY n) (ll:=[JW.e n,JX.e n]) (dr:=PO) (js:=afI n) (hT:=⟨.nil,K39 n,(PQ n),(.cc (Ue n) (.cc (Ud n) .nil)),(.cc (.cc (.cc (.cc (.cc .nil)))))⟩)) (K39 n)
def xN (n:Nat)(a0:Int):M Bool:=sh (ou (decide (4≠0))) λx0=>if decide (a0.tmod 4=0) then sh (ou (decide (100≠0))) λx1=>if !decide (a0.tmod 100=0) then AI true else sh (ou (decide (400≠0))) λx2=>AI (decide (a0.tmod 400=0)) else AI false
abbrev C41:List aS:=⟨166,[aq],[hS],λx=>xN n x⟩::C40 n
theorem K41:aC TZp (C41 n):=.cons (aY f166 (C40 n) (hT:=.m1 (K40 n))) (K40 n)
def mC (a0 a1:Int):M Int:=sh (aJ none GR [vi 0,vi 0,vi 0,vi 0,vi 0,vi 0,vi 0,vi 0,vi 0,vi 0,vi 0,vi 0,vi 0]) λx0=>sh (bD (ai x0) [vi 0,vi 31,vi 28,vi 31,vi 30,vi 31,vi 30,vi 31,vi 31,vi 30,vi 31,vi 30,vi 31]) λx1=>if decide (a1=2) then sh (xN n a0) λx2=>if x2 then AI 29 else sh (ou (decide (0<=a1/\a1<(↑13:Int)))) λx3=>L10 ((ai x0).plus (a1.toNat*1)) λx4=>AI x4 else sh (ou (decide (0<=a1/\a1<(↑13:Int)))) λx2=>L10 ((ai x0).plus (a1.toNat*1)) λx3=>AI x3
abbrev C42:List aS:=⟨135,[aq,aq],[aq],υ2 (mC n)⟩::C41 n
theorem K42:aC TZp (C42 n):=.cons (aY f135 (C41 n) (hT:=.m1 (K41 n))) (K41 n)
def td (n:Nat)(a0:Int):M Int:=sh (ou (decide (4≠0))) λx0=>sh (ou (decide (100≠0))) λx1=>sh (ou (decide (400≠0))) λx2=>AI (i64.wrap (i64.wrap (i64.wrap (i64.wrap (365*a0)+i64.wrap ((i64.wrap (a0+3)).tdiv 4))-i64.wrap ((i64.wrap (a0+99)).tdiv 100))+i64.wrap ((i64.wrap (a0+399)).tdiv 400)))
abbrev C43:List aS:=⟨136,[aq],[aq],λx=>td n x⟩::C42 n
theorem K43:aC TZp (C43 n):=.cons (aY f136 (C42 n) (hT:=.m1 (K42 n))) (K42 n)
def mU (G:τ15)(n:Nat):τ15:=λa0 a1 a2 a3=>if decide (a3<a1) then sh (mC n a0 a3) λx0=>G a0 a1 (i64.wrap (a2+x0)) (i64.wrap (a3+1)) else AI a2
def gZ:=lp0 mU
theorem pO:gZ (n+1)=mU (gZ n) n:=rfl
def A5 (a0 a1 a2:Int):M (Int×Int):=sh (td n a0) λx0=>sh (gZ n a0 a1 (i64.wrap (i64.wrap (i64.wrap (x0+a2)-1)-719528)) 1) λx1=>AI (x1,0)
def xO (a0 a1 a2:Int):M (Int×Int):=if decide (a0<0) then AI (0,13) else if decide (9999<a0) then AI (0,13) else if decide (a1<1) then AI (0,13) else if decide (12<a1) then AI (0,13) else if decide (a2<1) then AI (0,13) else sh (mC n a0 a1) λx0=>if decide (x0<a2) then AI (0,13) else A5 n a0 a1 a2
abbrev Fp:L1:=⟨[0,1,0,1,1,1],[(0,aq),(1,aq),(8,aq),(9,aq)],[(8,aq)],[8,9]++List.range' 41 10,0,λn=>υ4 (gZ n)⟩
abbrev abo:List (fT (Int×Int)):=[⟨[0,1,1],[.code [1,1,1]],[(0,aq),(1,aq),(2,aq)],υ3 (A5 n)⟩]
theorem PR:iJ TZp f104 (Fp.e n) Fp.ws:=L1.ok f104 Fp n C43 (hT:=λm _=>.m1 (K43 m))
abbrev C44:List aS:=⟨104,[aq,aq,aq],[aq,aq],υ3 (xO n)⟩::C43 n
theorem K44:aC TZp (C44 n):=.cons (aY f104 (C43 n) (ll:=[Fp.e n]) (js:=abo n) (hT:=⟨.nil,K43 n,.nil,(.cc (PR n) .nil),(.cc .nil)⟩)) (K43 n)
def eL (G:τ16)(n:Nat):τ16:=λa0 a1 a2=>if decide (a2<5) then sh (HR li 5 [vi a1.1,vi a1.2.1,vi a1.2.2.1,vi a1.2.2.2.1,vi a1.2.2.2.2] a2) λx0=>sh (ou (decide (0<=i64.wrap (a2+3)/\i64.wrap (a2+3)<(↑8:Int)))) λx1=>sh (ak li ((a0.plus 1).plus ((i64.wrap (a2+3)).toNat*1))) λ(x2:Int)=>if decide (x0<x2) then AI (Sum.inr false) else G a0 a1 (i64.wrap (a2+1)) else AI (Sum.inl ())
def dU:=lp0 eL
def fL (a0:Addr):M Bool:=sh (aJ none TT [vi 0,vi 0,vi 0,vi 0,vi 0]) λx0=>sh (bD (ai x0) [vi 23,vi 59,vi 59,vi 23,vi 59]) λx1=>sh (aE [li,li,li,li,li] (ai x0)) λ(x2:Int×Int×Int×Int×Int)=>sh (dU n a0 x2 0) (bu (λx3=>AI true) (λx3=>AI x3))
def gS (a0:J11):M Bool:=sh (aJ none bN (V11 a0)) λx0=>L10 ((ai x0).plus 0) λx1=>if !decide (x1=2) then sh (ou (decide (0<=0/\0<(↑8:Int)))) λx2=>L10 (((ai x0).plus 1).plus 0) λx3=>sh (ou (decide (0<=1/\1<(↑8:Int)))) λx4=>L10 (((ai x0).plus 1).plus 1) λx5=>sh (ou (decide (0<=2/\2<(↑8:Int)))) λx6=>L10 (((ai x0).plus 1).plus 2) λx7=>sh (xO n x3 x5 x7) λx8=>if !decide (x8.2=0) then AI false else fL n (ai x0) else fL n (ai x0)
abbrev JZ:L2:=⟨[0,1,0,1,1,1],[(1,aG),(27,.agg [.int .i64,.int .i64,.int .i64,.int .i64,.int .i64]),(28,aq)],[],[(2,hS)],[2,6,7]++List.range' 28 12,0,.ret,λn=>υ3 (dU n)⟩
abbrev afJ:List (fT Bool):=[⟨[0,1,1],[.code [1,1,1]],[(1,aG)],λx=>fL n x⟩]
theorem Uf:iJ TZp f76 (JZ.e n) JZ.ws:=L2.ok f76 JZ n C44 (hT:=λm _=>.m1 (K44 m))
abbrev C45:List aS:=⟨76,[.agg [.int .i64,.int .i64,.int .i64,.int .i64,.int .i64,.int .i64,.int .i64,.int .i64,.int .i64,.int .i64,.int .u8]],[hS],λx=>gS n x⟩::C44 n
theorem K45:aC TZp (C45 n):=.cons (aY f76 (C44 n) (ll:=[JZ.e n]) (js:=afJ n) (hT:=⟨.nil,K44 n,.nil,(.cc (Uf n) .nil),(.cc .nil)⟩)) (K44 n)
def pC (G:τ17)(n:Nat):τ17:=λa0 a1 a2=>sh (mC n a1 a2) λx0=>if decide (x0<=a0) then sh (mC n a1 a2) λx1=>G (i64.wrap (a0-x1)) a1 (i64.wrap (a2+1)) else AI (a0,a2)
def jm:=lp0 pC
theorem u0:jm (n+1)=pC (jm n) n:=rfl
def pD (G:τ18)(n:Nat):τ18:=λa0 a1=>sh (td n (i64.wrap (a1+1))) λx0=>if decide (x0<=a0) then G a0 (i64.wrap (a1+1)) else AI a1
def jn:=lp0 pD
theorem u4:jn (n+1)=pD (jn n) n:=rfl
def wx (a0:Int):M (Int×Int×Int×Int):=sh (ou (decide (366≠0))) λx0=>sh (jn n (i64.wrap (a0+719528)) (i64.wrap ((i64.wrap (a0+719528)).tdiv 366))) λx1=>sh (td n x1) λx2=>sh (jm n (i64.wrap (i64.wrap (a0+719528)-x2)) x1 1) λx3=>AI (x1,x3.2,i64.wrap (x3.1+1),0)
def Bt (a0:Int):M (Int×Int×Int×Int):=if decide (a0 < -719528) then AI (0,0,0,13) else if decide (2932896<a0) then AI (0,0,0,13) else wx n a0
abbrev Fq:L1:=⟨[0,0,1,1,1,1],[(6,aq),(7,aq)],[(7,aq)],[7]++List.range' 19 7,0,λn=>υ2 (jn n)⟩
abbrev Fs:L1:=⟨[0,0,1,1,1,1,1,1,1],[(6,aq),(7,aq),(8,aq)],[(6,aq),(8,aq)],[6,8]++List.range' 30 12,2,λn=>υ3 (jm n)⟩
abbrev abp:List (fT (Int×Int×Int×Int)):=[⟨[0,1,1],[.code [1,1,1]],[(0,aq)],λx=>wx n x⟩]
theorem PS:iJ TZp f105 (Fs.e n) Fs.ws:=L1.ok f105 Fs n C45 (hT:=λm _=>.m1 (K45 m))
theorem PU:iJ TZp f105 (Fq.e n) Fq.ws:=L1.ok f105 Fq n C45 (hT:=λm _=>.m1 (K45 m))
abbrev C46:List aS:=⟨105,[aq],[aq,aq,aq,aq],λx=>Bt n x⟩::C45 n
theorem K46:aC TZp (C46 n):=.cons (aY f105 (C45 n) (ll:=[Fq.e n,Fs.e n]) (js:=abp n) (hT:=⟨.nil,K45 n,.nil,(.cc (PU n) (.cc (PS n) .nil)),(.cc .nil)⟩)) (K45 n)
def jo (a0 a1:Int):M ζ:=sh (strconv_Itoa n a0) λx0=>sh (strings_Repeat n (ofBytes [48]) (if 0<i64.wrap (a1-(↑(ByteArray.size x0):Int)) then i64.wrap (a1-(↑(ByteArray.size x0):Int)) else 0)) λx1=>sh (kY x1 x0) λx2=>AI x2
abbrev C47:List aS:=⟨137,[aq,aq],[oz],υ2 (jo n)⟩::C46 n
theorem K47:aC TZp (C47 n):=.cons (aY f137 (C46 n) (hT:=.m1 (K46 n))) (K46 n)
def gC (a0:Addr)(a1:ζ):M ζ:=L10 (a0.plus 9) λx0=>if decide (0<x0) then L10 (a0.plus 9) λx1=>sh (jo n x1 9) λx2=>sh (gu n x2 (ofBytes [48])) λx3=>sh (kY (ofBytes [46]) x3) λx4=>sh (kY a1 x4) λx5=>AI x5 else AI a1
def dP (a0:Addr)(a1:ζ):M ζ:=L10 (a0.plus 0) λx0=>if !decide (x0=1) then sh (ou (decide (0<=3/\3<(↑8:Int)))) λx1=>sh (ou (decide (0<=4/\4<(↑8:Int)))) λx2=>sh (ou (decide (0<=5/\5<(↑8:Int)))) λx3=>L10 ((a0.plus 1).plus 3) λx4=>L10 ((a0.plus 1).plus 4) λx5=>L10 ((a0.plus 1).plus 5) λx6=>sh (oo [some ((a0.plus 1).plus 4),some ((a0.plus 1).plus 5)] (jo n x4 2)) λx7=>sh (kY x7 (ofBytes [58])) λx8=>sh (oo [some ((a0.plus 1).plus 5)] (jo n x5 2)) λx9=>sh (kY x8 x9) λx10=>sh (kY x10 (ofBytes [58])) λx11=>sh (jo n x6 2) λx12=>sh (kY x11 x12) λx13=>sh (kY a1 x13) λx14=>gC n a0 x14 else gC n a0 a1
def iZ (a0:J11):M ζ:=sh (aJ none bN (V11 a0)) λx0=>L10 ((ai x0).plus 0) λx1=>if !decide (x1=2) then sh (ou (decide (0<=0/\0<(↑8:Int)))) λx2=>sh (ou (decide (0<=1/\1<(↑8:Int)))) λx3=>sh (ou (decide (0<=2/\2<(↑8:Int)))) λx4=>L10 (((ai x0).plus 1).plus 0) λx5=>L10 (((ai x0).plus 1).plus 1) λx6=>L10 (((ai x0).plus 1).plus 2) λx7=>sh (oo [some (((ai x0).plus 1).plus 1),some (((ai x0).plus 1).plus 2)] (jo n x5 4)) λx8=>sh (kY x8 (ofBytes [45])) λx9=>sh (oo [some (((ai x0).plus 1).plus 2)] (jo n x6 2)) λx10=>sh (kY x9 x10) λx11=>sh (kY x11 (ofBytes [45])) λx12=>sh (jo n x7 2) λx13=>sh (kY x12 x13) λx14=>L10 ((ai x0).plus 0) λx15=>if decide (x15=3) then sh (kY x14 (ofBytes [84])) λx16=>dP n (ai x0) x16 else dP n (ai x0) x14 else L10 ((ai x0).plus 0) λx2=>if decide (x2=3) then sh (kY (ofBytes []) (ofBytes [84])) λx3=>dP n (ai x0) x3 else dP n (ai x0) (ofBytes [])
def abq (i:Nat):Option (List (Nat×η)):=Κ i 3 (Ω [0,1,5,6,11,12,2,7,13]++[(3,[7,13])]++Ω [4]++[(8,[13])]++Ω [9,10,14,15,16]) (Κ i 7 (Ω [0,1,2,6,7,12,13,3,8,14]++[(4,[8,14])]++Ω [5]++[(9,[14])]++Ω [10,11,15,16,17,18]) none)
abbrev abr:List (fT ζ):=[⟨[0,0,1,1,1,1],[.code [1,0,1,1,1,1],.code [1,1,1,1,1]],[(1,aG),(3,oz)],υ2 (dP n)⟩, ⟨[0,0,1,1,1,1,1],[.code [1,0,1,1,1,1,1],.code [1,1,1,1,1,1]],[(1,aG),(3,oz)],υ2 (gC n)⟩]
abbrev C48:List aS:=⟨106,[.agg [.int .i64,.int .i64,.int .i64,.int .i64,.int .i64,.int .i64,.int .i64,.int .i64,.int .i64,.int .i64,.int .u8]],[oz],λx=>iZ n x⟩::C47 n
theorem K48:aC TZp (C48 n):=.cons (aY f106 (C47 n) (dr:=abq) (js:=abr n) (hT:=⟨.nil,K47 n,.nil,.nil,(.cc (.cc .nil))⟩)) (K47 n)
def ie (a0 a1 a2:Int):M (ζ×Int):=sh (Bt n a1) λx0=>if !decide (x0.2.2.2=0) then AI ((ofBytes []),13) else sh (ou (decide (3600≠0))) λx1=>sh (ou (decide (60≠0))) λx2=>sh (ou (decide (60≠0))) λx3=>sh (ou (decide (60≠0))) λx4=>L26 λx5=>sh (bD (ai x5) [vi 3,vi x0.1,vi x0.2.1,vi x0.2.2.1,vi (i64.wrap (a2.tdiv 3600)),vi ((i64.wrap (a2.tdiv 60)).tmod 60),vi (a2.tmod 60),vi 0,vi 0,vi a0,.int IntKind.u8 0]) λx6=>L25 (ai x5) λx7=>sh (iZ n x7) λx8=>sh (kY x8 (ofBytes [90])) λx9=>AI (x9,0)
def n8 (a0 a1:Int):M (ζ×Int):=sh (ou (decide (86400≠0))) λx0=>sh (ou (decide (86400≠0))) λx1=>if decide (a0.tmod 86400<0) then ie n a1 (i64.wrap (i64.wrap (a0.tdiv 86400)-1)) (i64.wrap (a0.tmod 86400+86400)) else ie n a1 (i64.wrap (a0.tdiv 86400)) (a0.tmod 86400)
def nO (a0 a1:Int):M (ζ×Int):=if decide (a1<0) then AI ((ofBytes []),2) else if decide (999999999<a1) then AI ((ofBytes []),2) else if decide (a0 < -62167219200) then AI ((ofBytes []),13) else if decide (253402300800<=a0) then AI ((ofBytes []),13) else n8 n a0 a1
abbrev afK:List (fT (ζ×Int)):=[⟨[0,1,1,1],[.code [1,1,1,1]],[(0,aq),(1,aq)],υ2 (n8 n)⟩, ⟨[0,1,1,1,1,1],[.code [1,1,1,1,1,1]],[(1,aq),(6,aq),(7,aq)],υ3 (ie n)⟩]
abbrev C49:List aS:=⟨77,[aq,aq],[oz,aq],υ2 (nO n)⟩::C48 n
theorem K49:aC TZp (C49 n):=.cons (aY f77 (C48 n) (js:=afK n) (hT:=⟨.nil,K48 n,.nil,.nil,(.cc (.cc .nil))⟩)) (K48 n)
def jh (a0:J11):M Int:=sh (aJ none bN (V11 a0)) λx0=>sh (ou (decide (0<=0/\0<(↑8:Int)))) λx1=>L10 (((ai x0).plus 1).plus 0) λx2=>sh (ou (decide (0<=1/\1<(↑8:Int)))) λx3=>L10 (((ai x0).plus 1).plus 1) λx4=>sh (ou (decide (0<=2/\2<(↑8:Int)))) λx5=>L10 (((ai x0).plus 1).plus 2) λx6=>sh (xO n x2 x4 x6) λx7=>sh (ou (decide (0<=3/\3<(↑8:Int)))) λx8=>L10 (((ai x0).plus 1).plus 3) λx9=>sh (ou (decide (0<=4/\4<(↑8:Int)))) λx10=>L10 (((ai x0).plus 1).plus 4) λx11=>sh (ou (decide (0<=5/\5<(↑8:Int)))) λx12=>L10 (((ai x0).plus 1).plus 5) λx13=>sh (ou (decide (0<=6/\6<(↑8:Int)))) λx14=>L10 (((ai x0).plus 1).plus 6) λx15=>sh (ou (decide (0<=7/\7<(↑8:Int)))) λx16=>L10 (((ai x0).plus 1).plus 7) λx17=>sh (ak (.int IntKind.u8) ((ai x0).plus 10)) λ(x18:Int)=>if decide (x18=43) then AI (i64.wrap (i64.wrap (i64.wrap (i64.wrap (i64.wrap (x7.1*86400)+i64.wrap (x9*3600))+i64.wrap (x11*60))+x13)-i64.wrap (i64.wrap (x15*3600)+i64.wrap (x17*60)))) else AI (i64.wrap (i64.wrap (i64.wrap (i64.wrap (i64.wrap (x7.1*86400)+i64.wrap (x9*3600))+i64.wrap (x11*60))+x13)+i64.wrap (i64.wrap (x15*3600)+i64.wrap (x17*60))))
abbrev C50:List aS:=⟨78,[.agg [.int .i64,.int .i64,.int .i64,.int .i64,.int .i64,.int .i64,.int .i64,.int .i64,.int .i64,.int .i64,.int .u8]],[aq],λx=>jh n x⟩::C49 n
theorem K50:aC TZp (C50 n):=.cons (aY f78 (C49 n) (hT:=.m1 (K49 n))) (K49 n)
end Go.Sh
