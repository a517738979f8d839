
import Derived.Test.YthnfbcloepfooaaGreatDoorShLib
set_option linter.all false
set_option maxRecDepth 100000
set_option maxHeartbeats 0
namespace Go.Sh
open Go Go.Ago Go.Proofs Go.IntKind
noncomputable abbrev TZp:=Tryz.prog
abbrev J11:=Int×Int×Int×Int×Int×Int×Int×Int×Int×Int×Int
abbrev C0 (n:Nat):List cr:=[⟨67,[.one (.int .i64)],[.one (.str)],λx=>strconv_Itoa n x⟩,⟨74,[.one (.str)],[.one (.int .i64),.one (.raw)],λx=>strconv_Atoi n x⟩,⟨43,[.one (.str),.one (.str)],[.one (.int .i64)],υ2 (strings_Compare n)⟩,⟨47,[.one (.str),.one (.int .u8)],[.one (.int .i64)],υ2 (strings_IndexByte n)⟩,⟨51,[.one (.str)],[.one (.int .i64),.one (.int .i64)],λx=>fQ n x⟩,⟨84,[.one (.ptr)],[.one (.ptr)],λx=>oi n x⟩,⟨94,[.one (.int .u64)],[.one (.int .i64)],λx=>jo n x⟩,⟨62,[.one (.str)],[.one (.bool)],λx=>dW n x⟩]
theorem K0 (n:Nat):bA TZp (C0 n):=.cons (Bc n) (.cons (strconv_Atoi_ok n) (.cons (yw n) (.cons (wq n) (.cons (yx n) (.cons (zp n) (.cons (yy n) (.cons (rf n) .nil)))))))
def iT (G:Addr->Bool->Sl->Int->Int->Sl->Int->Int->Sl->Int->Int->M Bool)(n:Nat)(a0:Addr)(a1:Bool)(a2:Sl)(a3 a4:Int)(a5:Sl)(a6 a7:Int)(a8:Sl)(a9 a10:Int):M Bool:=if decide (a10<a9) then AI (ao a8 a10 1) λx0=>AI (ar li x0) λ(x1:Int)=>if a1 then if decide (0<=x1) then AI (ar .sl (a0.plus 0)) λ(x2:Sl)=>G a0 (decide (x1<(↑x2.len:Int))) a2 a3 a4 a5 a6 a7 a8 a9 (i64.wrap (a10+1)) else G a0 false a2 a3 a4 a5 a6 a7 a8 a9 (i64.wrap (a10+1)) else G a0 false a2 a3 a4 a5 a6 a7 a8 a9 (i64.wrap (a10+1)) else AS a1
def eV:Nat->Addr->Bool->Sl->Int->Int->Sl->Int->Int->Sl->Int->Int->M Bool|0=>λ_ _ _ _ _ _ _ _ _ _ _=>AT|n+1=>iT (eV n) n
theorem vL (n:Nat):eV (n+1)=iT (eV n) n:=rfl
def eS (G:Addr->Bool->Sl->Int->Int->Sl->Int->Int->M Bool)(n:Nat)(a0:Addr)(a1:Bool)(a2:Sl)(a3 a4:Int)(a5:Sl)(a6 a7:Int):M Bool:=if decide (a7<a6) then AI (ao a5 a7 1) λx0=>AI (ar .sl x0) λ(x1:Sl)=>AI (eV n a0 a1 a2 a3 a4 a5 a6 a7 x1 (↑x1.len:Int) 0) λx2=>G a0 x2 a2 a3 a4 a5 a6 (i64.wrap (a7+1)) else AS a1
def eW:Nat->Addr->Bool->Sl->Int->Int->Sl->Int->Int->M Bool|0=>λ_ _ _ _ _ _ _ _=>AT|n+1=>eS (eW n) n
theorem lB (n:Nat):eW (n+1)=eS (eW n) n:=rfl
def iU (G:Addr->Bool->Sl->Int->Int->M Bool)(n:Nat)(a0:Addr)(a1:Bool)(a2:Sl)(a3 a4:Int):M Bool:=if decide (a4<a3) then AI (ao a2 a4 5) λx0=>AI (bh [li,.str,.bool,.sl,.sl] x0) λ(x1:Int×ζ×Bool×Sl×Sl)=>AI (aJ none aH [vi 0,.string (ofBytes []),.bool false,aZ,aZ]) λx2=>AI (bE (aw x2) [vi x1.1,.string x1.2.1,.bool x1.2.2.1,aS x1.2.2.2.1,aS x1.2.2.2.2]) λx3=>AI (ar .sl ((aw x2).plus 3)) λ(x4:Sl)=>AI (ar .sl ((aw x2).plus 4)) λ(x5:Sl)=>AI (aJ none cw [aS x4,aS x5]) λx6=>AI (eW n a0 a1 a2 a3 a4 { a:=some (aw x6),len:=2,cap:=3 } (↑2:Int) 0) λx7=>G a0 x7 a2 a3 (i64.wrap (a4+1)) else AS a1
def eX:Nat->Addr->Bool->Sl->Int->Int->M Bool|0=>λ_ _ _ _ _=>AT|n+1=>iU (eX n) n
theorem vM (n:Nat):eX (n+1)=iU (eX n) n:=rfl
def gi (n:Nat)(a0:Addr)(a1:Bool):M Bool:=AI (ar .sl (a0.plus 0)) λ(x0:Sl)=>AI (eX n a0 a1 x0 (↑x0.len:Int) 0) λx1=>AS x1
def lu (n:Nat)(a0:Sl×Int):M Bool:=AI (aJ none aj [aS a0.1,vi a0.2]) λx0=>AI (ar li ((aw x0).plus 1)) λ(x1:Int)=>if decide (0<=x1) then AI (ar li ((aw x0).plus 1)) λ(x2:Int)=>AI (ar .sl ((aw x0).plus 0)) λ(x3:Sl)=>gi n (aw x0) (decide (x2<(↑x3.len:Int))) else gi n (aw x0) false
abbrev Uy (n:Nat):cr:=⟨28,[.agg [.sl,.int .i64]],[kP],λx=>lu n x⟩
abbrev Ft:L1:=⟨[0,1,0,1,1],[(1,aV),(3,kP),(22,cH),(23,aB),(24,aB)],[(3,kP)],[3,5,7,9]++List.range' 24 35,0,λn=>υ5 (eX n)⟩
abbrev Fu:L1:=⟨[0,1,1,0,0,1,1,0,0,1,0,1,1],[(1,aV),(3,kP),(22,cH),(23,aB),(24,aB),(32,cH),(33,aB),(34,aB)],[(3,kP)],[3,7,9]++List.range' 34 24,2,λn=>υ8 (eW n)⟩
abbrev Fv:L1:=⟨[0,1,1,0,0,1,1,0,0,1,1,0,0,1,1,0,0,1,0,1,1],[(1,aV),(3,kP),(22,cH),(23,aB),(24,aB),(32,cH),(33,aB),(34,aB),(38,cH),(39,aB),(40,aB)],[(3,kP)],[3,9]++List.range' 40 17,4,λn=>υ11 (eV n)⟩
abbrev V3 (n:Nat):List (jd Bool):=[⟨[0,0,1,1],[.code [1,0,1,1],.code [1,1,1]],[(1,aV),(3,kP)],υ2 (gi n)⟩]
theorem Nd (n:Nat):kE TZp Tryz.f28 (Fv.e n) Fv.ws:=L1.ok Tryz.f28 Fv n C0 (hT:=λm _=>.m1 (K0 m))
theorem Nf (n:Nat):kE TZp Tryz.f28 (Fu.e n) Fu.ws:=L1.ok Tryz.f28 Fu n C0 (lt:=λn=>[Fv.e n]) (hT:=λm _=>⟨.nil,K0 m,.nil,(.cc (Nd m) .nil),.nil⟩)
theorem Ng (n:Nat):kE TZp Tryz.f28 (Ft.e n) Ft.ws:=L1.ok Tryz.f28 Ft n C0 (lt:=λn=>[Fu.e n]) (hT:=λm _=>⟨.nil,K0 m,.nil,(.cc (Nf m) .nil),.nil⟩)
theorem Ae (n:Nat):bz TZp (Uy n):=cQ Tryz.f28 (C0 n) (ll:=[Ft.e n]) (js:=V3 n) (hT:=⟨.nil,K0 n,.nil,(.cc (Ng n) .nil),(.cc .nil)⟩)
abbrev C1 (n:Nat):List cr:=Uy n::C0 n
theorem K1 (n:Nat):bA TZp (C1 n):=.cons (Ae n) (K0 n)
structure aK where
 ej:Int->Addr->Addr->Sl->Int->Int->M Unit
 ek:Addr->Sl->Int->Int->M Unit
 dQ:Int->Addr->Addr->Addr->M Unit
def di (G:aK)(n:Nat)(x:ξ)(a0:Int):M Unit:=if uL lH x then AI (nr [aV,aV,aV] x) λ(c:Addr×Addr×Addr)=>G.dQ a0 c.1 c.2.1 c.2.2 else AT
abbrev jc:=di
def gE (G:aK)(n:Nat)(a0:Int)(a1 a2:Addr)(a3:Sl)(a4 a5:Int):M Unit:=if decide (a5<a4) then AI (ao a3 a5 1) λx0=>AI (ar li x0) λ(x1:Int)=>AI (ar .raw a2) λ(x2:ξ)=>AI (di G n x2 x1) λx3=>G.ej a0 a1 a2 a3 a4 (i64.wrap (a5+1)) else AS ()
def gF (G:aK)(n:Nat)(a0:Addr)(a1:Sl)(a2 a3:Int):M Unit:=if decide (a3<a2) then AI (ao a1 a3 1) λx0=>AI (ar li x0) λ(x1:Int)=>AI (ar .raw a0) λ(x2:ξ)=>AI (jc G n x2 x1) λx3=>G.ek a0 a1 a2 (i64.wrap (a3+1)) else AS ()
def jB (G:aK)(n:Nat)(a0:Int)(a1 a2 a3:Addr):M Unit:=AI (ar .sl a1) λ(x0:Sl)=>AI (ao x0 a0 1) λx1=>AI (ar .bool x1) λ(x2:Bool)=>if x2 then AS () else AI (ar .sl a1) λ(x3:Sl)=>AI (ao x3 a0 1) λx4=>AI (bE x4 [.bool true]) λx5=>AI (ar .sl (a2.plus 0)) λ(x6:Sl)=>AI (ao x6 a0 5) λx7=>AI (ar .sl (x7.plus 3)) λ(x8:Sl)=>AI (G.ej a0 a2 a3 x8 (↑x8.len:Int) 0) λx9=>AI (ar .sl (a2.plus 0)) λ(eU:Sl)=>AI (ao eU a0 5) λx11=>AI (ar .sl (x11.plus 4)) λ(x12:Sl)=>AI (G.ek a3 x12 (↑x12.len:Int) 0) λx13=>AS ()
def aK.at:Nat->aK|0=>⟨λ_ _ _ _ _ _=>AT,λ_ _ _ _=>AT,λ_ _ _ _=>AT⟩|n+1=>⟨gE (aK.at n) n,gF (aK.at n) n,jB (aK.at n) n⟩
def ej (n:Nat):=(aK.at n).ej
theorem uh (n:Nat):ej (n+1)=gE (aK.at n) n:=rfl
def ek (n:Nat):=(aK.at n).ek
theorem ui (n:Nat):ek (n+1)=gF (aK.at n) n:=rfl
def dQ (n:Nat):=(aK.at n).dQ
theorem wx (n:Nat):dQ (n+1)=jB (aK.at n) n:=rfl
def xl (n:Nat):=di (aK.at n) n
def xm (n:Nat):=jc (aK.at n) n
abbrev LJ (n:Nat):cr:=⟨52,[aB,aV,aV,aV],[],υ4 (dQ n)⟩
abbrev Fw:L1:=⟨[0,1,0,1,1],[(0,aB),(2,aV),(3,aV),(21,cH),(22,aB),(23,aB)],[],[6]++List.range' 23 8,0,λn=>υ6 (ej n)⟩
abbrev Fx:L1:=⟨[0,1,1,1,1],[(3,aV),(36,cH),(37,aB),(38,aB)],[],[8]++List.range' 38 8,2,λn=>υ4 (ek n)⟩
abbrev C2 (n:Nat):List cr:=LJ n::C1 n
abbrev Fy (n:Nat):List jk:=[⟨27,[aB],[],λx a=>xl n x a⟩, ⟨42,[aB],[],λx a=>xm n x a⟩]
def gX (n:Nat):Prop:=bz TZp (LJ n)
theorem Tu (n:Nat)(H:gX n):bA TZp (C2 n):=.cons H (K1 n)
theorem J5 (n:Nat)(H:gX n):nP TZp (Fy n):=.cons (eb (l:=[⟨52,[aV,aV,aV],λa c=>dQ n a c.1 c.2.1 c.2.2⟩]) (.cons (λa c=>aI (by kernel_rfl) ((H) (a,c.1,c.2.1,c.2.2))) .nil) (λx a=>by kernel_rfl)) (.cons (eb (l:=[⟨52,[aV,aV,aV],λa c=>dQ n a c.1 c.2.1 c.2.2⟩]) (.cons (λa c=>aI (by kernel_rfl) ((H) (a,c.1,c.2.1,c.2.2))) .nil) (λx a=>by kernel_rfl)) .nil)
theorem Nh (n:Nat)(H:∀m,m<n->gX m):kE TZp Tryz.f52 (Fw.e n) Fw.ws:=L1.ok Tryz.f52 Fw n C2 (dt:=Fy) (hT:=λm hm=>⟨.nil,Tu m (H m hm),(J5 m (H m hm)),.nil,.nil⟩)
theorem Ni (n:Nat)(H:∀m,m<n->gX m):kE TZp Tryz.f52 (Fx.e n) Fx.ws:=L1.ok Tryz.f52 Fx n C2 (dt:=Fy) (hT:=λm hm=>⟨.nil,Tu m (H m hm),(J5 m (H m hm)),.nil,.nil⟩)
theorem uj (n:Nat)(H:∀m,m<n+1->gX m):bz TZp (LJ (n+1)):=cQ Tryz.f52 (C2 n) (dl:=Fy n) (ll:=[Fw.e n,Fx.e n]) (hT:=⟨.nil,Tu n (H n (aad n)),(J5 n (H n (aad n))),(.cc (Nh n (λk hk=>H k (aal hk))) (.cc (Ni n (λk hk=>H k (aal hk))) .nil)),.nil⟩)
theorem pq:∀n m,m<n->gX m:=by
 intro n
 induction n with
 |zero=>intro m hm;exact absurd hm (abc m)
 |succ n ih=>
  intro m hm;cases m with
  |zero=>exact eg (fn:=Tryz.f52) (by kernel_rfl) (by kernel_rfl) (by kernel_rfl) (λ_=>rfl)
  |succ k=>exact uj k λm hm=>ih m (by omega)
theorem yA (n:Nat):bz TZp (LJ n):=(pq (n+1) n (aad n))
theorem K2 (n:Nat):bA TZp (C2 n):=Tu n (pq (n+1) n (aad n))
def j8 (n:Nat)(x:ξ)(a0:Int):M Unit:=if uL lH x then AI (nr [aV,aV,aV] x) λ(c:Addr×Addr×Addr)=>dQ n a0 c.1 c.2.1 c.2.2 else AT
def jQ (n:Nat)(a0:Sl×Int)(a1:Int)(a2:Sl):M Unit:=AI (aJ none aj [aS a0.1,vi a0.2]) λx0=>AI (aJ none rI [aS a2]) λx1=>AI (aJ none pC [Value.nilFunc]) λx2=>AI (bE (aw x2) [.func (Fn.func lH) #[] #[.pointer (some (aw x1)),.pointer (some (aw x0)),.pointer (some (aw x2))]]) λx3=>AI (ar .raw (aw x2)) λ(x4:ξ)=>AI (j8 n x4 a1) λx5=>AS ()
abbrev Uz (n:Nat):cr:=⟨29,[.agg [.sl,.int .i64],aB,cH],[],υ3 (jQ n)⟩
abbrev Qp (n:Nat):List jk:=[⟨8,[aB],[],λx a=>j8 n x a⟩]
theorem V4 (n:Nat):nP TZp (Qp n):=.cons (eb (l:=[⟨52,[aV,aV,aV],λa c=>dQ n a c.1 c.2.1 c.2.2⟩]) (.cons (λa c=>aI (by kernel_rfl) ((yA n) (a,c.1,c.2.1,c.2.2))) .nil) (λx a=>by kernel_rfl)) .nil
theorem Ag (n:Nat):bz TZp (Uz n):=cQ Tryz.f29 (C2 n) (dl:=Qp n) (hT:=⟨.nil,K2 n,(V4 n),.nil,.nil⟩)
abbrev C3 (n:Nat):List cr:=Uz n::C2 n
theorem K3 (n:Nat):bA TZp (C3 n):=.cons (Ag n) (K2 n)
def jC (G:Sl->M Sl)(n:Nat)(a0:Sl):M Sl:=if decide (0<(↑a0.len:Int)) then AI (ao a0 (i64.wrap ((↑a0.len:Int)-1)) 1) λx0=>AI (ar (.int IntKind.u8) x0) λ(x1:Int)=>if decide (x1=0) then AI (gf a0 0 (i64.wrap ((↑a0.len:Int)-1)) uf 1) λx2=>G x2 else AS a0 else AS a0
def eO:Nat->Sl->M Sl|0=>λ_=>AT|n+1=>jC (eO n) n
theorem wy (n:Nat):eO (n+1)=jC (eO n) n:=rfl
def oj (n:Nat)(a0:Sl):M Sl:=AI (eO n a0) λx0=>AS x0
abbrev Qq (n:Nat):cr:=⟨105,[cH],[cH],λx=>oj n x⟩
abbrev BN:L1:=⟨[0,0,1],[(0,cH)],[(0,cH)],[0]++List.range' 3 17,0,λn x=>eO n x⟩
theorem J6 (n:Nat):kE TZp Tryz.f105 (BN.e n) BN.ws:=L1.ok Tryz.f105 BN n C3 (hT:=λm _=>.m1 (K3 m))
theorem Be (n:Nat):bz TZp (Qq n):=cQ Tryz.f105 (C3 n) (ll:=[BN.e n]) (hT:=⟨.nil,K3 n,.nil,(.cc (J6 n) .nil),.nil⟩)
abbrev C4 (n:Nat):List cr:=Qq n::C3 n
theorem K4 (n:Nat):bA TZp (C4 n):=.cons (Be n) (K3 n)
def jD (G:Addr->Addr->ζ->Int->Int->M (Unit⊕Bool))(n:Nat)(a0 a1:Addr)(a2:ζ)(a3 a4 a5:Int):M (Unit⊕Bool):=AI (nO a2 a3) λx0=>AI (ar .sl (a1.plus 1)) λ(x1:Sl)=>AI (ao x1 (i64.wrap (i64.wrap ((↑a2.size:Int)-1)-a3)) 1) λx2=>AI (bE x2 [.int IntKind.u8 (IntKind.u8.wrap ((↑x0.toNat:Int)-48))]) λx3=>G a0 a1 a2 a4 (i64.wrap (a5+1))
def jE (G:Addr->Addr->ζ->Int->Int->M (Unit⊕Bool))(n:Nat)(a0 a1:Addr)(a2:ζ)(a3 a4:Int):M (Unit⊕Bool):=if decide (a4<a3) then AI (nO a2 a4) λx0=>if decide ((↑x0.toNat:Int)<48) then AI (bE a0 [.bool false,aZ]) λx1=>AS (Sum.inr false) else AI (nO a2 a4) λx1=>if decide (57<(↑x1.toNat:Int)) then AI (bE a0 [.bool false,aZ]) λx2=>AS (Sum.inr false) else jD G n a0 a1 a2 a4 a3 a4 else AS (Sum.inl ())
def eP:Nat->Addr->Addr->ζ->Int->Int->M (Unit⊕Bool)|0=>λ_ _ _ _ _=>AT|n+1=>jE (eP n) n
theorem wz (n:Nat):eP (n+1)=jE (eP n) n:=rfl
def yB (n:Nat):=jD (eP n) n
def fR (n:Nat)(a0 a1:Addr)(a2:ζ):M ((Bool×Sl)×Bool):=AI (pT none uf [.int IntKind.u8 0] (↑a2.size:Int) (↑a2.size:Int)) λx0=>AI (bE (a1.plus 1) [aS x0]) λx1=>AI (eP n a0 a1 a2 (↑a2.size:Int) 0) (cn (λx2=>AI (ar .sl (a1.plus 1)) λ(x3:Sl)=>AI (oj n x3) λx4=>AI (bE (a1.plus 1) [aS x4]) λx5=>AI (bh [.bool,.sl] a1) λ(x6:Bool×Sl)=>AI (bE a0 [.bool x6.1,aS x6.2]) λx7=>AI (bh [.bool,.sl] a0) λ(x8:Bool×Sl)=>AS ((x8.1,x8.2),true)) (λx2=>AI (bh [.bool,.sl] a0) λ(x3:Bool×Sl)=>AS ((x3.1,x3.2),x2)))
def eQ (n:Nat)(a0:ζ)(a1 a2:Addr)(a3:ζ):M ((Bool×Sl)×Bool):=if decide ((↑a3.size:Int)=0) then AI (bE a1 [.bool false,aZ]) λx0=>AI (bh [.bool,.sl] a1) λ(x1:Bool×Sl)=>AS ((x1.1,x1.2),false) else if decide (400<(↑a3.size:Int)) then AI (bE a1 [.bool false,aZ]) λx0=>AI (bh [.bool,.sl] a1) λ(x1:Bool×Sl)=>AS ((x1.1,x1.2),false) else AI (nO a3 0) λx0=>if decide ((↑x0.toNat:Int)=48) then if decide (1<(↑a0.size:Int)) then AI (bE a1 [.bool false,aZ]) λx1=>AI (bh [.bool,.sl] a1) λ(x2:Bool×Sl)=>AS ((x2.1,x2.2),false) else fR n a1 a2 a3 else fR n a1 a2 a3
def jF (n:Nat)(a0:ζ):M ((Bool×Sl)×Bool):=AI (aJ none aM [.bool false,aZ]) λx0=>AI (aJ none aM [.bool false,aZ]) λx1=>AI (bE (aw x1) [.bool false,aZ]) λx2=>if decide (1<(↑a0.size:Int)) then AI (nO a0 0) λx3=>if decide ((↑x3.toNat:Int)=45) then AI (bE ((aw x1).plus 0) [.bool true]) λx4=>AI (ji a0 1 (↑a0.size:Int)) λx5=>eQ n a0 (aw x0) (aw x1) x5 else eQ n a0 (aw x0) (aw x1) a0 else eQ n a0 (aw x0) (aw x1) a0
abbrev UA (n:Nat):cr:=⟨73,[yR],[.agg [.bool,.sl],kP],λx=>jF n x⟩
abbrev FA:L2:=⟨[0,1,0,1,1,1,1,1,1],[(2,aV),(4,aV),(5,yR),(44,aB),(45,aB)],[],[(3,kP)],[3,6]++List.range' 45 27,0,.ret,λn=>υ5 (eP n)⟩
def Qr (i:Nat):Option (List (Nat×η)):=Κ i 14 (Ω [0,2,3,4,5,6,7,8,9,10,1,11,12]) none
abbrev Nj (n:Nat):List (jd (Unit⊕Bool)):=[⟨[1,1,0,0,1,1,0,0,1,0,1,1,1,1,1,1],[.aD 1,.code [1,1,1,0,0,1,0,1,1,1,1,1,1]],[(2,aV),(4,aV),(5,yR),(6,aB),(44,aB),(45,aB)],υ6 (yB n)⟩]
abbrev V5 (n:Nat):List (jd ((Bool×Sl)×Bool)):=[⟨[0,0,1,1,1,1],[.code [1,0,1,1,1,1],.code [1,1,1,1,1]],[(0,yR),(2,aV),(4,aV),(5,yR)],υ4 (eQ n)⟩, ⟨[0,1,1,1,1,1],[.code [1,1,1,1,1,1]],[(2,aV),(4,aV),(5,yR)],υ3 (fR n)⟩]
theorem Nk (n:Nat):kE TZp Tryz.f73 (FA.e n) FA.ws:=L2.ok Tryz.f73 FA n C4 (dr:=Qr) (jt:=Nj) (hT:=λm _=>⟨.nil,K4 m,.nil,.nil,(.cc .nil)⟩)
theorem Bf (n:Nat):bz TZp (UA n):=cQ Tryz.f73 (C4 n) (ll:=[FA.e n]) (dr:=Qr) (js:=V5 n) (hT:=⟨.nil,K4 n,.nil,(.cc (Nk n) .nil),(.cc (.cc .nil))⟩)
abbrev C5 (n:Nat):List cr:=UA n::C4 n
theorem K5 (n:Nat):bA TZp (C5 n):=.cons (Bf n) (K4 n)
def jR (n:Nat)(a0:ζ):M Bool:=AI (jF n a0) λx0=>AI (aJ none aM [.bool false,aZ]) λx1=>AI (bE (aw x1) [.bool x0.1.1,aS x0.1.2]) λx2=>AS x0.2
abbrev UB (n:Nat):cr:=⟨48,[yR],[kP],λx=>jR n x⟩
theorem Ah (n:Nat):bz TZp (UB n):=cQ Tryz.f48 (C5 n) (hT:=.m1 (K5 n))
abbrev C6 (n:Nat):List cr:=UB n::C5 n
theorem K6 (n:Nat):bA TZp (C6 n):=.cons (Ah n) (K5 n)
def kU (n:Nat)(a0:Int)(a1:ζ):M Bool:=if decide (a0=0) then AS (pj a1 (ofBytes [])) else if decide (a0=1) then if pj a1 (ofBytes [116,114,117,101]) then AS true else AS (pj a1 (ofBytes [102,97,108,115,101])) else if decide (a0=2) then AI (jR n a1) λx0=>AS x0 else if decide (a0=3) then AT else if decide (a0=4) then AT else if decide (a0=5) then AI (fQ n a1) λx0=>AS (decide (x0.2=0)) else if decide (a0=6) then AS true else if decide (a0=7) then AT else if decide (a0=8) then AT else AS false
abbrev UC (n:Nat):cr:=⟨46,[aB,yR],[kP],υ2 (kU n)⟩
theorem Bg (n:Nat):bz TZp (UC n):=cQ Tryz.f46 (C6 n) (hT:=.m1 (K6 n))
abbrev C7 (n:Nat):List cr:=UC n::C6 n
theorem K7 (n:Nat):bA TZp (C7 n):=.cons (Bg n) (K6 n)
def qw (G:ζ->Int->Int->M (Unit⊕Bool))(n:Nat)(a0:ζ)(a1 a2:Int):M (Unit⊕Bool):=if decide (a2<a1) then AI (nO a0 a2) λx0=>if decide (97<=(↑x0.toNat:Int)) then if decide ((↑x0.toNat:Int)<=122) then G a0 a1 (i64.wrap (a2+1)) else if decide (65<=(↑x0.toNat:Int)) then if decide ((↑x0.toNat:Int)<=90) then G a0 a1 (i64.wrap (a2+1)) else if decide (48<=(↑x0.toNat:Int)) then if decide ((↑x0.toNat:Int)<=57) then G a0 a1 (i64.wrap (a2+1)) else if decide ((↑x0.toNat:Int)=95) then G a0 a1 (i64.wrap (a2+1)) else if decide ((↑x0.toNat:Int)=45) then G a0 a1 (i64.wrap (a2+1)) else if decide ((↑x0.toNat:Int)=46) then G a0 a1 (i64.wrap (a2+1)) else if !decide ((↑x0.toNat:Int)=58) then AS (Sum.inr false) else G a0 a1 (i64.wrap (a2+1)) else if decide ((↑x0.toNat:Int)=95) then G a0 a1 (i64.wrap (a2+1)) else if decide ((↑x0.toNat:Int)=45) then G a0 a1 (i64.wrap (a2+1)) else if decide ((↑x0.toNat:Int)=46) then G a0 a1 (i64.wrap (a2+1)) else if !decide ((↑x0.toNat:Int)=58) then AS (Sum.inr false) else G a0 a1 (i64.wrap (a2+1)) else if decide (48<=(↑x0.toNat:Int)) then if decide ((↑x0.toNat:Int)<=57) then G a0 a1 (i64.wrap (a2+1)) else if decide ((↑x0.toNat:Int)=95) then G a0 a1 (i64.wrap (a2+1)) else if decide ((↑x0.toNat:Int)=45) then G a0 a1 (i64.wrap (a2+1)) else if decide ((↑x0.toNat:Int)=46) then G a0 a1 (i64.wrap (a2+1)) else if !decide ((↑x0.toNat:Int)=58) then AS (Sum.inr false) else G a0 a1 (i64.wrap (a2+1)) else if decide ((↑x0.toNat:Int)=95) then G a0 a1 (i64.wrap (a2+1)) else if decide ((↑x0.toNat:Int)=45) then G a0 a1 (i64.wrap (a2+1)) else if decide ((↑x0.toNat:Int)=46) then G a0 a1 (i64.wrap (a2+1)) else if !decide ((↑x0.toNat:Int)=58) then AS (Sum.inr false) else G a0 a1 (i64.wrap (a2+1)) else if decide (65<=(↑x0.toNat:Int)) then if decide ((↑x0.toNat:Int)<=90) then G a0 a1 (i64.wrap (a2+1)) else if decide (48<=(↑x0.toNat:Int)) then if decide ((↑x0.toNat:Int)<=57) then G a0 a1 (i64.wrap (a2+1)) else if decide ((↑x0.toNat:Int)=95) then G a0 a1 (i64.wrap (a2+1)) else if decide ((↑x0.toNat:Int)=45) then G a0 a1 (i64.wrap (a2+1)) else if decide ((↑x0.toNat:Int)=46) then G a0 a1 (i64.wrap (a2+1)) else if !decide ((↑x0.toNat:Int)=58) then AS (Sum.inr false) else G a0 a1 (i64.wrap (a2+1)) else if decide ((↑x0.toNat:Int)=95) then G a0 a1 (i64.wrap (a2+1)) else if decide ((↑x0.toNat:Int)=45) then G a0 a1 (i64.wrap (a2+1)) else if decide ((↑x0.toNat:Int)=46) then G a0 a1 (i64.wrap (a2+1)) else if !decide ((↑x0.toNat:Int)=58) then AS (Sum.inr false) else G a0 a1 (i64.wrap (a2+1)) else if decide (48<=(↑x0.toNat:Int)) then if decide ((↑x0.toNat:Int)<=57) then G a0 a1 (i64.wrap (a2+1)) else if decide ((↑x0.toNat:Int)=95) then G a0 a1 (i64.wrap (a2+1)) else if decide ((↑x0.toNat:Int)=45) then G a0 a1 (i64.wrap (a2+1)) else if decide ((↑x0.toNat:Int)=46) then G a0 a1 (i64.wrap (a2+1)) else if !decide ((↑x0.toNat:Int)=58) then AS (Sum.inr false) else G a0 a1 (i64.wrap (a2+1)) else if decide ((↑x0.toNat:Int)=95) then G a0 a1 (i64.wrap (a2+1)) else if decide ((↑x0.toNat:Int)=45) then G a0 a1 (i64.wrap (a2+1)) else if decide ((↑x0.toNat:Int)=46) then G a0 a1 (i64.wrap (a2+1)) else if !decide ((↑x0.toNat:Int)=58) then AS (Sum.inr false) else G a0 a1 (i64.wrap (a2+1)) else AS (Sum.inl ())
def mJ:Nat->ζ->Int->Int->M (Unit⊕Bool)|0=>λ_ _ _=>AT|n+1=>qw (mJ n) n
def u9 (n:Nat)(a0:ζ):M Bool:=AI (mJ n a0 (↑a0.size:Int) 0) (cn (λx0=>if decide (1<=(↑a0.size:Int)) then AS (decide ((↑a0.size:Int)<=64)) else AS false) (λx0=>AS x0))
abbrev UD (n:Nat):cr:=⟨53,[yR],[kP],λx=>u9 n x⟩
abbrev FB:L2:=⟨[0,1,0,1],[(0,yR),(6,aB),(7,aB)],[],[(2,kP)],[2,3,4]++List.range' 7 46,0,.ret,λn=>υ3 (mJ n)⟩
theorem Nl (n:Nat):kE TZp Tryz.f53 (FB.e n) FB.ws:=L2.ok Tryz.f53 FB n C7 (hT:=λm _=>.m1 (K7 m))
theorem DW (n:Nat):bz TZp (UD n):=cQ Tryz.f53 (C7 n) (ll:=[FB.e n]) (hT:=⟨.nil,K7 n,.nil,(.cc (Nl n) .nil),.nil⟩)
abbrev C8 (n:Nat):List cr:=UD n::C7 n
theorem K8 (n:Nat):bA TZp (C8 n):=.cons (DW n) (K7 n)
def pG (n:Nat)(a0:Int×ζ×Bool×Sl×Sl):M Bool:=AI (aJ none aH [vi a0.1,.string a0.2.1,.bool a0.2.2.1,aS a0.2.2.2.1,aS a0.2.2.2.2]) λx0=>AI (ar li ((aw x0).plus 0)) λ(x1:Int)=>if decide (x1=9) then AI (ar .str ((aw x0).plus 1)) λ(x2:ζ)=>if pj x2 (ofBytes []) then AI (ar .bool ((aw x0).plus 2)) λ(x3:Bool)=>if !x3 then AI (ar .sl ((aw x0).plus 3)) λ(x4:Sl)=>AS (decide ((↑x4.len:Int)=0)) else AS false else AS false else if decide (x1=10) then AI (ar .str ((aw x0).plus 1)) λ(x2:ζ)=>if pj x2 (ofBytes []) then AI (ar .sl ((aw x0).plus 3)) λ(x3:Sl)=>AI (ar .sl ((aw x0).plus 4)) λ(x4:Sl)=>AS (decide ((↑x3.len:Int)=(↑x4.len:Int))) else AS false else if decide (x1=11) then AI (ar .str ((aw x0).plus 1)) λ(x2:ζ)=>AI (u9 n x2) λx3=>if x3 then AI (ar .bool ((aw x0).plus 2)) λ(x4:Bool)=>if !x4 then AI (ar .sl ((aw x0).plus 3)) λ(x5:Sl)=>if decide ((↑x5.len:Int)=0) then AI (ar .sl ((aw x0).plus 4)) λ(x6:Sl)=>AS (decide ((↑x6.len:Int)=1)) else AS false else AS false else AS false else AI (ar .bool ((aw x0).plus 2)) λ(x2:Bool)=>if !x2 then AI (ar .sl ((aw x0).plus 3)) λ(x3:Sl)=>if decide ((↑x3.len:Int)=0) then AI (ar .sl ((aw x0).plus 4)) λ(x4:Sl)=>if decide ((↑x4.len:Int)=0) then AI (ar li ((aw x0).plus 0)) λ(x5:Int)=>AI (ar .str ((aw x0).plus 1)) λ(x6:ζ)=>AI (kU n x5 x6) λx7=>AS x7 else AS false else AS false else AS false
abbrev UE (n:Nat):cr:=⟨30,[.agg [.int .i64,.str,.bool,.sl,.sl]],[kP],λx=>pG n x⟩
theorem DX (n:Nat):bz TZp (UE n):=cQ Tryz.f30 (C8 n) (hT:=.m1 (K8 n))
abbrev C9 (n:Nat):List cr:=UE n::C8 n
theorem K9 (n:Nat):bA TZp (C9 n):=.cons (DX n) (K8 n)
def jG (G:Sl->Addr->Sl->Int->Int->Sl->Int->Int->M Unit)(n:Nat)(a0:Sl)(a1:Addr)(a2:Sl)(a3 a4:Int)(a5:Sl)(a6 a7:Int):M Unit:=if decide (a7<a6) then AI (ao a5 a7 1) λx0=>AI (ar li x0) λ(x1:Int)=>AI (ao a0 x1 1) λx2=>AI (ar li x2) λ(x3:Int)=>AI (ao a0 x1 1) λx4=>AI (bE x4 [vi (i64.wrap (x3+1))]) λx5=>G a0 a1 a2 a3 a4 a5 a6 (i64.wrap (a7+1)) else AS ()
def fS:Nat->Sl->Addr->Sl->Int->Int->Sl->Int->Int->M Unit|0=>λ_ _ _ _ _ _ _ _=>AT|n+1=>jG (fS n) n
theorem wA (n:Nat):fS (n+1)=jG (fS n) n:=rfl
def jH (G:Sl->Sl->Int->Int->Sl->Int->Int->M Unit)(n:Nat)(a0 a1:Sl)(a2 a3:Int)(a4:Sl)(a5 a6:Int):M Unit:=if decide (a6<a5) then AI (ao a4 a6 1) λx0=>AI (ar li x0) λ(x1:Int)=>AI (ao a0 x1 1) λx2=>AI (ar li x2) λ(x3:Int)=>AI (ao a0 x1 1) λx4=>AI (bE x4 [vi (i64.wrap (x3+1))]) λx5=>G a0 a1 a2 a3 a4 a5 (i64.wrap (a6+1)) else AS ()
def fT:Nat->Sl->Sl->Int->Int->Sl->Int->Int->M Unit|0=>λ_ _ _ _ _ _ _=>AT|n+1=>jH (fT n) n
theorem wB (n:Nat):fT (n+1)=jH (fT n) n:=rfl
def jI (G:Sl->Sl->Int->Int->M Unit)(n:Nat)(a0 a1:Sl)(a2 a3:Int):M Unit:=if decide (a3<a2) then AI (ao a1 a3 5) λx0=>AI (bh [li,.str,.bool,.sl,.sl] x0) λ(x1:Int×ζ×Bool×Sl×Sl)=>AI (aJ none aH [vi 0,.string (ofBytes []),.bool false,aZ,aZ]) λx2=>AI (bE (aw x2) [vi x1.1,.string x1.2.1,.bool x1.2.2.1,aS x1.2.2.2.1,aS x1.2.2.2.2]) λx3=>AI (ar .sl ((aw x2).plus 3)) λ(x4:Sl)=>AI (fS n a0 (aw x2) a1 a2 a3 x4 (↑x4.len:Int) 0) λx5=>AI (ar .sl ((aw x2).plus 4)) λ(x6:Sl)=>AI (fT n a0 a1 a2 a3 x6 (↑x6.len:Int) 0) λx7=>G a0 a1 a2 (i64.wrap (a3+1)) else AS ()
def fU:Nat->Sl->Sl->Int->Int->M Unit|0=>λ_ _ _ _=>AT|n+1=>jI (fU n) n
theorem wC (n:Nat):fU (n+1)=jI (fU n) n:=rfl
def kV (n:Nat)(a0:Sl×Int):M Sl:=AI (aJ none aj [aS a0.1,vi a0.2]) λx0=>AI (ar .sl ((aw x0).plus 0)) λ(x1:Sl)=>AI (pT none ay [vi 0] (↑x1.len:Int) (↑x1.len:Int)) λx2=>AI (ar li ((aw x0).plus 1)) λ(x3:Int)=>AI (ao x2 x3 1) λx4=>AI (ar li x4) λ(x5:Int)=>AI (ao x2 x3 1) λx6=>AI (bE x6 [vi (i64.wrap (x5+1))]) λx7=>AI (ar .sl ((aw x0).plus 0)) λ(x8:Sl)=>AI (fU n x2 x8 (↑x8.len:Int) 0) λx9=>AS x2
abbrev UF (n:Nat):cr:=⟨31,[.agg [.sl,.int .i64]],[cH],λx=>kV n x⟩
abbrev FC:L1:=⟨[0,1,0,1,1,1],[(3,cH),(22,cH),(23,aB),(24,aB)],[],[5,7,9]++List.range' 24 33,0,λn=>υ4 (fU n)⟩
abbrev FD:L1:=⟨[0,1,0,1,0,0,1,1,0,0,1,0,1,1,1],[(3,cH),(5,aV),(22,cH),(23,aB),(24,aB),(29,cH),(30,aB),(31,aB)],[],[7]++List.range' 31 11,2,λn=>υ8 (fS n)⟩
abbrev FE:L1:=⟨[0,1,1,1,0,0,1,1,0,0,1,0,1,1,1],[(3,cH),(22,cH),(23,aB),(24,aB),(43,cH),(44,aB),(45,aB)],[],[9]++List.range' 45 11,4,λn=>υ7 (fT n)⟩
theorem Nn (n:Nat):kE TZp Tryz.f31 (FD.e n) FD.ws:=L1.ok Tryz.f31 FD n C9 (hT:=λm _=>.m1 (K9 m))
theorem Np (n:Nat):kE TZp Tryz.f31 (FE.e n) FE.ws:=L1.ok Tryz.f31 FE n C9 (hT:=λm _=>.m1 (K9 m))
theorem Nq (n:Nat):kE TZp Tryz.f31 (FC.e n) FC.ws:=L1.ok Tryz.f31 FC n C9 (lt:=λn=>[FD.e n,FE.e n]) (hT:=λm _=>⟨.nil,K9 m,.nil,(.cc (Nn m) (.cc (Np m) .nil)),.nil⟩)
theorem Bh (n:Nat):bz TZp (UF n):=cQ Tryz.f31 (C9 n) (ll:=[FC.e n]) (hT:=⟨.nil,K9 n,.nil,(.cc (Nq n) .nil),.nil⟩)
abbrev XX (n:Nat):List cr:=UF n::C9 n
theorem Yy (n:Nat):bA TZp (XX n):=.cons (Bh n) (K9 n)
def jJ (G:Addr->Sl->Sl->Int->Int->Sl->Int->Int->M Unit)(n:Nat)(a0:Addr)(a1 a2:Sl)(a3 a4:Int)(a5:Sl)(a6 a7:Int):M Unit:=if decide (a7<a6) then AI (ao a5 a7 1) λx0=>AI (ar li x0) λ(x1:Int)=>AI (bh [.sl,li] a0) λ(x2:Sl×Int)=>AI (jQ n (x2.1,x2.2) x1 a1) λx3=>G a0 a1 a2 a3 a4 a5 a6 (i64.wrap (a7+1)) else AS ()
def fV:Nat->Addr->Sl->Sl->Int->Int->Sl->Int->Int->M Unit|0=>λ_ _ _ _ _ _ _ _=>AT|n+1=>jJ (fV n) n
theorem wD (n:Nat):fV (n+1)=jJ (fV n) n:=rfl
def jK (G:Addr->Sl->Sl->Int->Int->M Unit)(n:Nat)(a0:Addr)(a1 a2:Sl)(a3 a4:Int):M Unit:=if decide (a4<a3) then AI (ao a2 a4 5) λx0=>AI (bh [li,.str,.bool,.sl,.sl] x0) λ(x1:Int×ζ×Bool×Sl×Sl)=>AI (aJ none aH [vi 0,.string (ofBytes []),.bool false,aZ,aZ]) λx2=>AI (bE (aw x2) [vi x1.1,.string x1.2.1,.bool x1.2.2.1,aS x1.2.2.2.1,aS x1.2.2.2.2]) λx3=>AI (ar .sl ((aw x2).plus 3)) λ(x4:Sl)=>AI (fV n a0 a1 a2 a3 a4 x4 (↑x4.len:Int) 0) λx5=>G a0 a1 a2 a3 (i64.wrap (a4+1)) else AS ()
def fW:Nat->Addr->Sl->Sl->Int->Int->M Unit|0=>λ_ _ _ _ _=>AT|n+1=>jK (fW n) n
theorem wE (n:Nat):fW (n+1)=jK (fW n) n:=rfl
def l7 (n:Nat)(a0:Sl×Int):M Sl:=AI (aJ none aj [aS a0.1,vi a0.2]) λx0=>AI (ar .sl ((aw x0).plus 0)) λ(x1:Sl)=>AI (pT none yp [.bool false] (↑x1.len:Int) (↑x1.len:Int)) λx2=>AI (ar .sl ((aw x0).plus 0)) λ(x3:Sl)=>AI (fW n (aw x0) x2 x3 (↑x3.len:Int) 0) λx4=>AS x2
abbrev UG (n:Nat):cr:=⟨32,[.agg [.sl,.int .i64]],[cH],λx=>l7 n x⟩
abbrev FF:L1:=⟨[0,1,0,1,1],[(1,aV),(3,cH),(13,cH),(14,aB),(15,aB)],[],[5,7]++List.range' 15 17,0,λn=>υ5 (fW n)⟩
abbrev FG:L1:=⟨[0,1,1,0,0,1,1,0,0,1,0,1,1],[(1,aV),(3,cH),(13,cH),(14,aB),(15,aB),(20,cH),(21,aB),(22,aB)],[],[7]++List.range' 22 9,2,λn=>υ8 (fV n)⟩
theorem Nr (n:Nat):kE TZp Tryz.f32 (FG.e n) FG.ws:=L1.ok Tryz.f32 FG n XX (hT:=λm _=>.m1 (Yy m))
theorem Ns (n:Nat):kE TZp Tryz.f32 (FF.e n) FF.ws:=L1.ok Tryz.f32 FF n XX (lt:=λn=>[FG.e n]) (hT:=λm _=>⟨.nil,Yy m,.nil,(.cc (Nr m) .nil),.nil⟩)
theorem Bi (n:Nat):bz TZp (UG n):=cQ Tryz.f32 (XX n) (ll:=[FF.e n]) (hT:=⟨.nil,Yy n,.nil,(.cc (Ns n) .nil),.nil⟩)
abbrev ZX (n:Nat):List cr:=UG n::XX n
theorem K11 (n:Nat):bA TZp (ZX n):=.cons (Bi n) (Yy n)
structure aX where
 fA:Addr->Addr->Addr->Int->Int->Bool->Sl->Int->Int->Sl->Int->Int->M Bool
 iL:Addr->Addr->Addr->Sl->Int->Int->M (Unit⊕Bool)
 eM:Addr->Addr->Addr->Int->Int->M (Unit⊕Bool)
 gj:(Sl×Int)->Int->Int->M Bool
def k9 (G:aX)(n:Nat)(a0 a1 a2:Addr)(a3 a4:Int)(a5:Bool)(a6:Sl)(a7 a8:Int)(a9:Sl)(a10 a11:Int):M Bool:=if decide (a11<a10) then AI (ao a9 a11 1) λx0=>AI (ar li x0) λ(x1:Int)=>if a5 then G.fA a0 a1 a2 a3 a4 true a6 a7 a8 a9 a10 (i64.wrap (a11+1)) else AI (bh [.sl,li] a0) λ(x2:Sl×Int)=>AI (G.gj (x2.1,x2.2) a4 x1) λx3=>if x3 then AI (bh [.sl,li] a0) λ(x4:Sl×Int)=>AI (ar .sl (a1.plus 4)) λ(x5:Sl)=>AI (ao x5 a3 1) λx6=>AI (ar li x6) λ(x7:Int)=>AI (ar .sl (a2.plus 4)) λ(x8:Sl)=>AI (ao x8 a11 1) λx9=>AI (ar li x9) λ(eU:Int)=>AI (G.gj (x4.1,x4.2) x7 eU) λx11=>G.fA a0 a1 a2 a3 a4 x11 a6 a7 a8 a9 a10 (i64.wrap (a11+1)) else G.fA a0 a1 a2 a3 a4 false a6 a7 a8 a9 a10 (i64.wrap (a11+1)) else AS a5
def la (G:aX)(n:Nat)(a0 a1 a2:Addr)(a3:Sl)(a4 a5:Int):M (Unit⊕Bool):=if decide (a5<a4) then AI (ao a3 a5 1) λx0=>AI (ar li x0) λ(x1:Int)=>AI (ar .sl (a2.plus 3)) λ(x2:Sl)=>AI (G.fA a0 a1 a2 a5 x1 false a3 a4 a5 x2 (↑x2.len:Int) 0) λx3=>if !x3 then AS (Sum.inr false) else G.iL a0 a1 a2 a3 a4 (i64.wrap (a5+1)) else AS (Sum.inl ())
def lg (G:aX)(n:Nat)(a0 a1 a2:Addr)(a3 a4:Int):M (Unit⊕Bool):=if decide (a4<a3) then AI (ar li (a1.plus 0)) λ(x0:Int)=>if decide (x0=10) then AI (bh [.sl,li] a0) λ(x1:Sl×Int)=>AI (ar .sl (a1.plus 3)) λ(x2:Sl)=>AI (ao x2 a4 1) λx3=>AI (ar li x3) λ(x4:Int)=>AI (ar .sl (a2.plus 3)) λ(x5:Sl)=>AI (ao x5 a4 1) λx6=>AI (ar li x6) λ(x7:Int)=>AI (G.gj (x1.1,x1.2) x4 x7) λx8=>if !x8 then AS (Sum.inr false) else AI (bh [.sl,li] a0) λ(x9:Sl×Int)=>AI (ar .sl (a1.plus 4)) λ(eU:Sl)=>AI (ao eU a4 1) λx11=>AI (ar li x11) λ(x12:Int)=>AI (ar .sl (a2.plus 4)) λ(x13:Sl)=>AI (ao x13 a4 1) λx14=>AI (ar li x14) λ(x15:Int)=>AI (G.gj (x9.1,x9.2) x12 x15) λx16=>if !x16 then AS (Sum.inr false) else G.eM a0 a1 a2 a3 (i64.wrap (a4+1)) else AI (bh [.sl,li] a0) λ(x1:Sl×Int)=>AI (ar .sl (a1.plus 4)) λ(x2:Sl)=>AI (ao x2 a4 1) λx3=>AI (ar li x3) λ(x4:Int)=>AI (ar .sl (a2.plus 4)) λ(x5:Sl)=>AI (ao x5 a4 1) λx6=>AI (ar li x6) λ(x7:Int)=>AI (G.gj (x1.1,x1.2) x4 x7) λx8=>if !x8 then AS (Sum.inr false) else G.eM a0 a1 a2 a3 (i64.wrap (a4+1)) else AS (Sum.inl ())
def ni (G:aX)(n:Nat)(a0 a1 a2:Addr):M Bool:=AI (ar li (a1.plus 0)) λ(x0:Int)=>if decide (x0=10) then AI (ar .bool (a1.plus 2)) λ(x1:Bool)=>if !x1 then AI (ar .sl (a1.plus 3)) λ(x2:Sl)=>AI (G.iL a0 a1 a2 x2 (↑x2.len:Int) 0) (cn (λx3=>AS true) (λx3=>AS x3)) else AI (ar .sl (a1.plus 4)) λ(x2:Sl)=>AI (G.eM a0 a1 a2 (↑x2.len:Int) 0) (cn (λx3=>AS true) (λx3=>AS x3)) else AI (ar .sl (a1.plus 4)) λ(x1:Sl)=>AI (G.eM a0 a1 a2 (↑x1.len:Int) 0) (cn (λx2=>AS true) (λx2=>AS x2))
def om (G:aX)(n:Nat)(a0:Sl×Int)(a1 a2:Int):M Bool:=AI (aJ none aj [aS a0.1,vi a0.2]) λx0=>AI (dT 14) λx1=>AI (ar .sl ((aw x0).plus 0)) λ(x2:Sl)=>AI (ao x2 a1 5) λx3=>AI (bh [li,.str,.bool,.sl,.sl] x3) λ(x4:Int×ζ×Bool×Sl×Sl)=>AI (ar .sl ((aw x0).plus 0)) λ(x5:Sl)=>AI (ao x5 a2 5) λx6=>AI (bh [li,.str,.bool,.sl,.sl] x6) λ(x7:Int×ζ×Bool×Sl×Sl)=>AI (aJ (some (x1+10)) aH [vi 0,.string (ofBytes []),.bool false,aZ,aZ]) λx8=>AI (aJ (some (x1+11)) aH [vi 0,.string (ofBytes []),.bool false,aZ,aZ]) λx9=>AI (kO [some ((aw x0).plus 0),some x6] (bE (aw x8) [vi x4.1,.string x4.2.1,.bool x4.2.2.1,aS x4.2.2.2.1,aS x4.2.2.2.2])) λeU=>AI (bE (aw x9) [vi x7.1,.string x7.2.1,.bool x7.2.2.1,aS x7.2.2.2.1,aS x7.2.2.2.2]) λx11=>AI (ar li ((aw x8).plus 0)) λ(x12:Int)=>AI (ar li ((aw x9).plus 0)) λ(x13:Int)=>if !decide (x12=x13) then AS false else AI (ar .str ((aw x8).plus 1)) λ(x14:ζ)=>AI (ar .str ((aw x9).plus 1)) λ(x15:ζ)=>if !pj x14 x15 then AS false else AI (ar .bool ((aw x8).plus 2)) λ(x16:Bool)=>AI (ar .bool ((aw x9).plus 2)) λ(x17:Bool)=>if !x16==x17 then AS false else AI (ar .sl ((aw x8).plus 4)) λ(x18:Sl)=>AI (ar .sl ((aw x9).plus 4)) λ(x19:Sl)=>if !decide ((↑x18.len:Int)=(↑x19.len:Int)) then AS false else ni G n (aw x0) (aw x8) (aw x9)
def aX.at:Nat->aX|0=>⟨λ_ _ _ _ _ _ _ _ _ _ _ _=>AT,λ_ _ _ _ _ _=>AT,λ_ _ _ _ _=>AT,λ_ _ _=>AT⟩|n+1=>⟨k9 (aX.at n) n,la (aX.at n) n,lg (aX.at n) n,om (aX.at n) n⟩
def fA (n:Nat):=(aX.at n).fA
theorem yC (n:Nat):fA (n+1)=k9 (aX.at n) n:=rfl
def iL (n:Nat):=(aX.at n).iL
theorem yD (n:Nat):iL (n+1)=la (aX.at n) n:=rfl
def eM (n:Nat):=(aX.at n).eM
theorem yE (n:Nat):eM (n+1)=lg (aX.at n) n:=rfl
def gj (n:Nat):=(aX.at n).gj
theorem Bj (n:Nat):gj (n+1)=om (aX.at n) n:=rfl
def DY (n:Nat):=ni (aX.at n) n
abbrev Qs (n:Nat):cr:=⟨54,[.agg [.sl,.int .i64],aB,aB],[kP],υ3 (gj n)⟩
abbrev FH:L2:=⟨[0,1,0,0,1,0,1,1,1],[(3,aV),(7,aV),(8,aV),(62,cH),(63,aB),(64,aB)],[],[(6,kP)],[6]++List.range' 9 5++List.range' 64 38,0,.ret,λn=>υ6 (iL n)⟩
abbrev FI:L1:=⟨[0,1,0,1,1,0,0,1,1,0,0,1,0,0,1,0,1,1,1],[(3,aV),(7,aV),(8,aV),(9,aB),(10,aB),(11,kP),(62,cH),(63,aB),(64,aB),(70,cH),(71,aB),(72,aB)],[(11,kP)],[11,12,13]++List.range' 72 27,2,λn=>υ12 (fA n)⟩
abbrev FJ:L2:=⟨[0,1,0,1,1,1,1],[(3,aV),(7,aV),(8,aV),(104,aB),(105,aB)],[],[(6,kP)],[6,14]++List.range' 105 37,4,.ret,λn=>υ5 (eM n)⟩
abbrev Qt (n:Nat):List cr:=Qs n::ZX n
def FK (i:Nat):Option (List (Nat×η)):=Κ i 1 (Ω [0,2,5,7,1,3,4,6,8,9,10,11]++[(12,[6,9])]++Ω [13]) (Κ i 12 (Ω [0,1,3,4,2,5,6,8,10,13,15,7,9,11,12,14,16,17,18,19,20,21]) (Κ i 21 (Ω [0,1,2,3,5,7,10,12,4,6,8,9,11,13,14,15,16,17,18,20,22,25,27,19,21,23,24,26,28,29,30,31,32]) none))
abbrev V6 (n:Nat):List (jd Bool):=[⟨[0,0,1,1,1],[.code [1,0,1,1,1],.code [1,1,1,1]],[(3,aV),(7,aV),(8,aV)],υ3 (DY n)⟩]
def l8 (n:Nat):Prop:=bz TZp (Qs n)
theorem IE (n:Nat)(H:l8 n):bA TZp (Qt n):=.cons H (K11 n)
theorem Nt (n:Nat)(H:∀m,m<n->l8 m):kE TZp Tryz.f54 (FI.e n) FI.ws:=L1.ok Tryz.f54 FI n Qt (dr:=FK) (hT:=λm hm=>.m1 (IE m (H m hm)))
theorem Nu (n:Nat)(H:∀m,m<n->l8 m):kE TZp Tryz.f54 (FH.e n) FH.ws:=L2.ok Tryz.f54 FH n Qt (lt:=λn=>[FI.e n]) (dr:=FK) (hT:=λm hm=>⟨.nil,IE m (H m hm),.nil,(.cc (Nt m (λk hk=>H k (abk hk hm))) .nil),.nil⟩)
theorem Nv (n:Nat)(H:∀m,m<n->l8 m):kE TZp Tryz.f54 (FJ.e n) FJ.ws:=L2.ok Tryz.f54 FJ n Qt (dr:=FK) (hT:=λm hm=>.m1 (IE m (H m hm)))
theorem yF (n:Nat)(H:∀m,m<n+1->l8 m):bz TZp (Qs (n+1)):=cQ Tryz.f54 (Qt n) (ll:=[FH.e n,FJ.e n]) (dr:=FK) (js:=V6 n) (hT:=⟨.nil,IE n (H n (aad n)),.nil,(.cc (Nu n (λk hk=>H k (aal hk))) (.cc (Nv n (λk hk=>H k (aal hk))) .nil)),(.cc .nil)⟩)
theorem Ai:∀n m,m<n->l8 m:=by
 intro n
 induction n with
 |zero=>intro m hm;exact absurd hm (abc m)
 |succ n ih=>
  intro m hm;cases m with
  |zero=>exact eg (fn:=Tryz.f54) (by kernel_rfl) (by kernel_rfl) (by kernel_rfl) (λ_=>rfl)
  |succ k=>exact yF k λm hm=>ih m (by omega)
theorem XY (n:Nat):bA TZp (Qt n):=IE n (Ai (n+1) n (aad n))
def j9 (G:Addr->μ->Int->Addr->Sl->Int->Int->Sl->Int->Int->Sl->Int->Int->M (Unit⊕Bool))(n:Nat)(a0:Addr)(a1:μ)(a2:Int)(a3:Addr)(a4:Sl)(a5 a6:Int)(a7:Sl)(a8 a9:Int)(a10:Sl)(a11 a12:Int):M (Unit⊕Bool):=if decide (a12<a11) then AI (ao a10 a12 1) λx0=>AI (ar li x0) λ(x1:Int)=>AI (bh [.sl,li] a0) λ(x2:Sl×Int)=>AI (gj n (x2.1,x2.2) a2 x1) λx3=>if x3 then AS (Sum.inr true) else G a0 a1 a2 a3 a4 a5 a6 a7 a8 a9 a10 a11 (i64.wrap (a12+1)) else AS (Sum.inl ())
def gG:Nat->Addr->μ->Int->Addr->Sl->Int->Int->Sl->Int->Int->Sl->Int->Int->M (Unit⊕Bool)|0=>λ_ _ _ _ _ _ _ _ _ _ _ _ _=>AT|n+1=>j9 (gG n) n
theorem xn (n:Nat):gG (n+1)=j9 (gG n) n:=rfl
def kc (G:Addr->μ->Sl->Int->Int->Sl->Int->Int->M (Unit⊕Bool))(n:Nat)(a0:Addr)(a1:μ)(a2:Sl)(a3 a4:Int)(a5:Sl)(a6 a7:Int):M (Unit⊕Bool):=if decide (a7<a6) then AI (ao a5 a7 1) λx0=>AI (ar li x0) λ(x1:Int)=>AI (dT 15) λx2=>AI (ar .sl (a0.plus 0)) λ(x3:Sl)=>AI (ao x3 x1 5) λx4=>AI (ar li (x4.plus 0)) λ(x5:Int)=>AI (ar .sl (a0.plus 0)) λ(x6:Sl)=>AI (ao x6 x1 5) λx7=>AI (ar .str (x7.plus 1)) λ(x8:ζ)=>AI (aJ (some (x2+13)) cd [vi 0,.string (ofBytes [])]) λx9=>AI (bE (aw x9) [vi x5,.string x8]) λeU=>AI (bh [li,.str] (aw x9)) λ(x11:Int×ζ)=>AI (rN cd (Ty.one .sl) jb a1 (Value.agg #[vi x11.1,.string x11.2])) λ(x12:Bool×Sl)=>AI (gG n a0 a1 x1 (aw x9) a2 a3 a4 a5 a6 a7 x12.2 (↑x12.2.len:Int) 0) (cn (λx13=>AI (bh [li,.str] (aw x9)) λ(x14:Int×ζ)=>AI (lT cd (Ty.one .sl) jb a1 (Value.agg #[vi x14.1,.string x14.2])) λx15=>AI (app false x15.1 1 ay 1 [vi x1]) λx16=>AI (nW a1 (↑x15.2:Int) (aS x16)) λx17=>G a0 a1 a2 a3 a4 a5 a6 (i64.wrap (a7+1))) (λx13=>AS (Sum.inr x13))) else AS (Sum.inl ())
def fD:Nat->Addr->μ->Sl->Int->Int->Sl->Int->Int->M (Unit⊕Bool)|0=>λ_ _ _ _ _ _ _ _=>AT|n+1=>kc (fD n) n
theorem xo (n:Nat):fD (n+1)=kc (fD n) n:=rfl
def ke (G:Addr->Sl->Int->Int->M (Unit⊕Bool))(n:Nat)(a0:Addr)(a1:Sl)(a2 a3:Int):M (Unit⊕Bool):=if decide (a3<a2) then AI (ao a1 a3 5) λx0=>AI (bh [li,.str,.bool,.sl,.sl] x0) λ(x1:Int×ζ×Bool×Sl×Sl)=>AI (aJ none aH [vi 0,.string (ofBytes []),.bool false,aZ,aZ]) λx2=>AI (bE (aw x2) [vi x1.1,.string x1.2.1,.bool x1.2.2.1,aS x1.2.2.2.1,aS x1.2.2.2.2]) λx3=>AI (vx cd) λx4=>AI (ar .sl ((aw x2).plus 3)) λ(x5:Sl)=>AI (fD n a0 (some x4) a1 a2 a3 x5 (↑x5.len:Int) 0) (cn (λx6=>G a0 a1 a2 (i64.wrap (a3+1))) (λx6=>AS (Sum.inr x6))) else AS (Sum.inl ())
def fE:Nat->Addr->Sl->Int->Int->M (Unit⊕Bool)|0=>λ_ _ _ _=>AT|n+1=>ke (fE n) n
theorem xp (n:Nat):fE (n+1)=ke (fE n) n:=rfl
def nL (n:Nat)(a0:Sl×Int):M Bool:=AI (aJ none aj [aS a0.1,vi a0.2]) λx0=>AI (ar .sl ((aw x0).plus 0)) λ(x1:Sl)=>AI (fE n (aw x0) x1 (↑x1.len:Int) 0) (cn (λx2=>AS false) (λx2=>AS x2))
abbrev UH (n:Nat):cr:=⟨33,[.agg [.sl,.int .i64]],[kP],λx=>nL n x⟩
abbrev FL:L2:=⟨[0,1,0,1],[(1,aV),(12,cH),(13,aB),(14,aB)],[],[(2,kP)],[2,4,5,7,8,10]++List.range' 14 48,0,.ret,λn=>υ4 (fE n)⟩
abbrev FM:L2:=⟨[0,1,1,1,0,0,1,1,0,0,1,0,1],[(1,aV),(5,Xi),(12,cH),(13,aB),(14,aB),(20,cH),(21,aB),(22,aB)],[],[(2,kP)],[2,7,8,10]++List.range' 22 39,2,.ret,λn=>υ8 (fD n)⟩
abbrev FN:L2:=⟨[0,1,0,1,1,0,0,1,1,0,0,1,1,1,0,0,1,1,0,0,1,0,1],[(1,aV),(5,Xi),(7,aB),(8,aV),(12,cH),(13,aB),(14,aB),(20,cH),(21,aB),(22,aB),(41,cH),(42,aB),(43,aB)],[],[(2,kP)],[2,10]++List.range' 43 9,4,.ret,λn=>υ13 (gG n)⟩
def FO (i:Nat):Option (List (Nat×η)):=Κ i 8 (Ω [0,2,6,8,1,3,4,5,7,9,10,11,12,13,14]) none
theorem Nw (n:Nat):kE TZp Tryz.f33 (FN.e n) FN.ws:=L2.ok Tryz.f33 FN n Qt (dr:=FO) (hT:=λm _=>.m1 (XY m))
theorem Nx (n:Nat):kE TZp Tryz.f33 (FM.e n) FM.ws:=L2.ok Tryz.f33 FM n Qt (lt:=λn=>[FN.e n]) (dr:=FO) (hT:=λm _=>⟨.nil,XY m,.nil,(.cc (Nw m) .nil),.nil⟩)
theorem Ny (n:Nat):kE TZp Tryz.f33 (FL.e n) FL.ws:=L2.ok Tryz.f33 FL n Qt (lt:=λn=>[FM.e n]) (dr:=FO) (hT:=λm _=>⟨.nil,XY m,.nil,(.cc (Nx m) .nil),.nil⟩)
theorem CQ (n:Nat):bz TZp (UH n):=cQ Tryz.f33 (Qt n) (ll:=[FL.e n]) (dr:=FO) (hT:=⟨.nil,XY n,.nil,(.cc (Ny n) .nil),.nil⟩)
abbrev ZY (n:Nat):List cr:=UH n::Qt n
theorem K13 (n:Nat):bA TZp (ZY n):=.cons (CQ n) (XY n)
structure al where
 dj:Addr->Addr->Addr->Addr->Addr->Int->M Int
 dk:Addr->Addr->Addr->Addr->Addr->Addr->Addr->ξ->Sl->Int->Int->M Unit
 dm:Addr->Addr->Addr->Addr->Addr->Addr->Addr->Addr->ξ->Sl->Int->Int->M Unit
 cW:Int->Addr->Addr->Addr->Addr->Addr->Addr->Addr->Addr->Addr->M Unit
 cR:Int->Addr->Addr->Addr->Addr->Addr->M Unit
def cx (G:al)(n:Nat)(x:ξ)(a0:Int):M Unit:=if uL iz x then AI (nr [aV,aV,aV,aV,aV] x) λ(c:Addr×Addr×Addr×Addr×Addr)=>G.cR a0 c.1 c.2.1 c.2.2.1 c.2.2.2.1 c.2.2.2.2 else AT
abbrev gq:=cx
def fF (G:al)(n:Nat)(x:ξ)(a0:Int):M Unit:=if uL jA x then AI (nr [aV,aV,aV,aV,aV,aV,aV,aV,aV] x) λ(c:Addr×Addr×Addr×Addr×Addr×Addr×Addr×Addr×Addr)=>G.cW a0 c.1 c.2.1 c.2.2.1 c.2.2.2.1 c.2.2.2.2.1 c.2.2.2.2.2.1 c.2.2.2.2.2.2.1 c.2.2.2.2.2.2.2.1 c.2.2.2.2.2.2.2.2 else AT
def eY (G:al)(n:Nat)(a0 a1 a2 a3 a4:Addr)(a5:Int):M Int:=AI (ar .sl a0) λ(x0:Sl)=>AI (ar .sl a0) λ(x1:Sl)=>AI (ao x0 (i64.wrap ((↑x1.len:Int)-1)) 1) λx2=>AI (ar li x2) λ(x3:Int)=>AI (ar .sl a0) λ(x4:Sl)=>AI (ar .sl a0) λ(x5:Sl)=>AI (gf x4 0 (i64.wrap ((↑x5.len:Int)-1)) ay 1) λx6=>AI (bE a0 [aS x6]) λx7=>AI (ar .sl a1) λ(x8:Sl)=>AI (ao x8 x3 1) λx9=>AI (bE x9 [.bool false]) λeU=>AI (ar .sl a3) λ(x11:Sl)=>AI (ar .sl a2) λ(x12:Sl)=>AI (ao x11 x3 1) λx13=>AI (bE x13 [vi (↑x12.len:Int)]) λx14=>AI (ar li a4) λ(x15:Int)=>if decide (x3=x15) then AS (i64.wrap (a5+1)) else G.dj a0 a1 a2 a3 a4 (i64.wrap (a5+1))
def eZ (G:al)(n:Nat)(a0 a1 a2 a3 a4 a5 a6:Addr)(a7:ξ)(a8:Sl)(a9 a10:Int):M Unit:=if decide (a10<a9) then AI (ao a8 a10 1) λx0=>AI (ar li x0) λ(x1:Int)=>AI (gq G n a7 x1) λx2=>G.dk a0 a1 a2 a3 a4 a5 a6 a7 a8 a9 (i64.wrap (a10+1)) else AS ()
def fb (G:al)(n:Nat)(a0 a1 a2 a3 a4 a5 a6 a7:Addr)(a8:ξ)(a9:Sl)(a10 a11:Int):M Unit:=if decide (a11<a10) then AI (ao a9 a11 1) λx0=>AI (ar li x0) λ(x1:Int)=>AI (cx G n a8 x1) λx2=>G.dm a0 a1 a2 a3 a4 a5 a6 a7 a8 a9 a10 (i64.wrap (a11+1)) else AS ()
def gH (G:al)(n:Nat)(a0:Int)(a1 a2 a3 a4 a5 a6 a7 a8 a9:Addr):M Unit:=AI (aJ none ay [vi a0]) λx0=>AI (ar li a1) λ(x1:Int)=>AI (bE a1 [vi (i64.wrap (x1+1))]) λx2=>AI (ar .sl a2) λ(x3:Sl)=>AI (ar li (aw x0)) λ(x4:Int)=>AI (ar .sl a3) λ(x5:Sl)=>AI (ar li (aw x0)) λ(x6:Int)=>AI (ar li a1) λ(x7:Int)=>AI (ao x3 x4 1) λx8=>AI (ar li a1) λ(x9:Int)=>AI (kO [some a3,some (aw x0),some a1] (bE x8 [vi x7])) λeU=>AI (ao x5 x6 1) λx11=>AI (bE x11 [vi x9]) λx12=>AI (ar .sl a4) λ(x13:Sl)=>AI (ar li (aw x0)) λ(x14:Int)=>AI (app false x13 1 ay 1 [vi x14]) λx15=>AI (bE a4 [aS x15]) λx16=>AI (ar .sl a5) λ(x17:Sl)=>AI (ar li (aw x0)) λ(x18:Int)=>AI (ao x17 x18 1) λx19=>AI (bE x19 [.bool true]) λx20=>AI (ar .sl (a7.plus 0)) λ(x21:Sl)=>AI (ar li (aw x0)) λ(x22:Int)=>AI (ao x21 x22 5) λx23=>AI (ar .sl (x23.plus 3)) λ(x24:Sl)=>AI (G.dm a2 a3 a4 a5 a7 a8 a9 (aw x0) (Value.func (Fn.func iz) #[] #[.pointer (some a2),.pointer (some a6),.pointer (some a3),.pointer (some (aw x0)),.pointer (some a5)]) x24 (↑x24.len:Int) 0) λx25=>AI (ar .sl (a7.plus 0)) λ(x26:Sl)=>AI (ar li (aw x0)) λ(x27:Int)=>AI (ao x26 x27 5) λx28=>AI (ar .sl (x28.plus 4)) λ(x29:Sl)=>AI (G.dk a2 a3 a4 a5 a8 a9 (aw x0) (Value.func (Fn.func iz) #[] #[.pointer (some a2),.pointer (some a6),.pointer (some a3),.pointer (some (aw x0)),.pointer (some a5)]) x29 (↑x29.len:Int) 0) λx30=>AI (ar .sl a3) λ(x31:Sl)=>AI (ar li (aw x0)) λ(x32:Int)=>AI (ao x31 x32 1) λx33=>AI (ar li x33) λ(x34:Int)=>AI (ar .sl a2) λ(x35:Sl)=>AI (ar li (aw x0)) λ(x36:Int)=>AI (ao x35 x36 1) λx37=>AI (ar li x37) λ(x38:Int)=>if !decide (x34=x38) then AS () else AI (G.dj a4 a5 a8 a9 (aw x0) 0) λx39=>AI (ar .sl a8) λ(x40:Sl)=>AI (app false x40 1 ay 1 [vi x39]) λx41=>AI (bE a8 [aS x41]) λx42=>AS ()
def fG (G:al)(n:Nat)(a0:Int)(a1 a2 a3 a4 a5:Addr):M Unit:=AI (ar .sl a1) λ(x0:Sl)=>AI (ao x0 a0 1) λx1=>AI (ar li x1) λ(x2:Int)=>if decide (x2=0) then AI (ar .raw a2) λ(x3:ξ)=>AI (fF G n x3 a0) λx4=>AI (ar .sl a3) λ(x5:Sl)=>AI (ar li a4) λ(x6:Int)=>AI (ar .sl a3) λ(x7:Sl)=>AI (ar li a4) λ(x8:Int)=>AI (ao x7 x8 1) λx9=>AI (ar li x9) λ(eU:Int)=>AI (ar .sl a3) λ(x11:Sl)=>AI (ao x11 a0 1) λx12=>AI (ar li x12) λ(x13:Int)=>AI (ao x5 x6 1) λx14=>AI (bE x14 [vi (if x13<eU then x13 else eU)]) λx15=>AS () else AI (ar .sl a5) λ(x3:Sl)=>AI (ao x3 a0 1) λx4=>AI (ar .bool x4) λ(x5:Bool)=>if x5 then AI (ar .sl a3) λ(x6:Sl)=>AI (ar li a4) λ(x7:Int)=>AI (ar .sl a3) λ(x8:Sl)=>AI (ar li a4) λ(x9:Int)=>AI (ao x8 x9 1) λeU=>AI (ar li eU) λ(x11:Int)=>AI (ar .sl a1) λ(x12:Sl)=>AI (ao x12 a0 1) λx13=>AI (ar li x13) λ(x14:Int)=>AI (ao x6 x7 1) λx15=>AI (bE x15 [vi (if x14<x11 then x14 else x11)]) λx16=>AS () else AS ()
def al.at:Nat->al|0=>⟨λ_ _ _ _ _ _=>AT,λ_ _ _ _ _ _ _ _ _ _ _=>AT,λ_ _ _ _ _ _ _ _ _ _ _ _=>AT,λ_ _ _ _ _ _ _ _ _ _=>AT,λ_ _ _ _ _ _=>AT⟩|n+1=>⟨eY (al.at n) n,eZ (al.at n) n,fb (al.at n) n,gH (al.at n) n,fG (al.at n) n⟩
def dj (n:Nat):=(al.at n).dj
theorem rZ (n:Nat):dj (n+1)=eY (al.at n) n:=rfl
def dk (n:Nat):=(al.at n).dk
theorem r4 (n:Nat):dk (n+1)=eZ (al.at n) n:=rfl
def dm (n:Nat):=(al.at n).dm
theorem r5 (n:Nat):dm (n+1)=fb (al.at n) n:=rfl
def cW (n:Nat):=(al.at n).cW
theorem uk (n:Nat):cW (n+1)=gH (al.at n) n:=rfl
def cR (n:Nat):=(al.at n).cR
theorem sG (n:Nat):cR (n+1)=fG (al.at n) n:=rfl
def va (n:Nat):=cx (al.at n) n
def vc (n:Nat):=gq (al.at n) n
def tO (n:Nat):=fF (al.at n) n
abbrev LK (n:Nat):cr:=⟨76,[aB,aV,aV,aV,aV,aV,aV,aV,aV,aV],[],υ10 (cW n)⟩
abbrev FP:L1:=⟨[0,1,0,1,1,1,1,1,1],[(2,aV),(3,aV),(4,aV),(5,aV),(7,aV),(8,aV),(9,aV),(10,aV),(11,rX),(41,cH),(42,aB),(43,aB)],[],[13]++List.range' 43 8,0,λn=>υ12 (dm n)⟩
abbrev FQ:L1:=⟨[0,1,0,1,1,1,1,1,1,1],[(2,aV),(3,aV),(4,aV),(5,aV),(8,aV),(9,aV),(10,aV),(11,rX),(56,cH),(57,aB),(58,aB)],[],[15]++List.range' 58 8,2,λn=>υ11 (dk n)⟩
abbrev FR:L1:=⟨[0,0,1,1,1,1,1,1,1,1,1,1],[(4,aV),(5,aV),(8,aV),(9,aV),(10,aV),(16,aB)],[(16,aB)],[16,17]++List.range' 75 24,4,λn=>υ6 (dj n)⟩
abbrev Qu (n:Nat):cr:=⟨77,[aB,aV,aV,aV,aV,aV],[],υ6 (cR n)⟩
abbrev Sr (n:Nat):List cr:=LK n::Qu n::ZY n
abbrev CR (n:Nat):List jk:=[⟨47,[aB],[],λx a=>va n x a⟩, ⟨62,[aB],[],λx a=>vc n x a⟩]
def FT (i:Nat):Option (List (Nat×η)):=Κ i 2 (Ω [0,1,2,3,4,6,5]++[(7,[2,3,5])]++Ω [8,9]) (Κ i 16 (Ω [0,1,2,3,4,5,6,7,8]) none)
abbrev Qv (n:Nat):List jk:=[⟨12,[aB],[],λx a=>tO n x a⟩]
def V7 (i:Nat):Option (List (Nat×η)):=Κ i 2 (Ω [7,0,1,2,3,4,5,6,8,9,10,11,12]) (Κ i 4 (Ω [7,0,1,2,3,4,5,6,8,9,10,11,12]) none)
def cS (n:Nat):Prop:=bz TZp (LK n)/\bz TZp (Qu n)
theorem Ew (n:Nat)(H:cS n):bA TZp (Sr n):=.cons H.1 (.cons H.2 (K13 n))
theorem FU (n:Nat)(H:cS n):nP TZp (CR n):=.cons (eb (l:=[⟨77,[aV,aV,aV,aV,aV],λa c=>cR n a c.1 c.2.1 c.2.2.1 c.2.2.2.1 c.2.2.2.2⟩]) (.cons (λa c=>aI (by kernel_rfl) ((H).2 (a,c.1,c.2.1,c.2.2.1,c.2.2.2.1,c.2.2.2.2))) .nil) (λx a=>by kernel_rfl)) (.cons (eb (l:=[⟨77,[aV,aV,aV,aV,aV],λa c=>cR n a c.1 c.2.1 c.2.2.1 c.2.2.2.1 c.2.2.2.2⟩]) (.cons (λa c=>aI (by kernel_rfl) ((H).2 (a,c.1,c.2.1,c.2.2.1,c.2.2.2.1,c.2.2.2.2))) .nil) (λx a=>by kernel_rfl)) .nil)
theorem Nz (n:Nat)(H:∀m,m<n->cS m):kE TZp Tryz.f76 (FR.e n) FR.ws:=L1.ok Tryz.f76 FR n Sr (dt:=CR) (dr:=FT) (hT:=λm hm=>⟨.nil,Ew m (H m hm),(FU m (H m hm)),.nil,.nil⟩)
theorem NA (n:Nat)(H:∀m,m<n->cS m):kE TZp Tryz.f76 (FQ.e n) FQ.ws:=L1.ok Tryz.f76 FQ n Sr (dt:=CR) (dr:=FT) (hT:=λm hm=>⟨.nil,Ew m (H m hm),(FU m (H m hm)),.nil,.nil⟩)
theorem NC (n:Nat)(H:∀m,m<n->cS m):kE TZp Tryz.f76 (FP.e n) FP.ws:=L1.ok Tryz.f76 FP n Sr (dt:=CR) (dr:=FT) (hT:=λm hm=>⟨.nil,Ew m (H m hm),(FU m (H m hm)),.nil,.nil⟩)
theorem r6 (n:Nat)(H:∀m,m<n+1->cS m):bz TZp (LK (n+1)):=cQ Tryz.f76 (Sr n) (dl:=CR n) (ll:=[FP.e n,FQ.e n,FR.e n]) (dr:=FT) (hT:=⟨.nil,Ew n (H n (aad n)),(FU n (H n (aad n))),(.cc (NC n (λk hk=>H k (aal hk))) (.cc (NA n (λk hk=>H k (aal hk))) (.cc (Nz n (λk hk=>H k (aal hk))) .nil))),.nil⟩)
theorem V8 (n:Nat)(H:cS n):nP TZp (Qv n):=.cons (eb (l:=[⟨76,[aV,aV,aV,aV,aV,aV,aV,aV,aV],λa c=>cW n a c.1 c.2.1 c.2.2.1 c.2.2.2.1 c.2.2.2.2.1 c.2.2.2.2.2.1 c.2.2.2.2.2.2.1 c.2.2.2.2.2.2.2.1 c.2.2.2.2.2.2.2.2⟩]) (.cons (λa c=>aI (by kernel_rfl) ((H).1 (a,c.1,c.2.1,c.2.2.1,c.2.2.2.1,c.2.2.2.2.1,c.2.2.2.2.2.1,c.2.2.2.2.2.2.1,c.2.2.2.2.2.2.2.1,c.2.2.2.2.2.2.2.2))) .nil) (λx a=>by kernel_rfl)) .nil
theorem qx (n:Nat)(H:∀m,m<n+1->cS m):bz TZp (Qu (n+1)):=cQ Tryz.f77 (Sr n) (dl:=Qv n) (dr:=V7) (hT:=⟨.nil,Ew n (H n (aad n)),(V8 n (H n (aad n))),.nil,.nil⟩)
theorem mK:∀n m,m<n->cS m:=by
 intro n
 induction n with
 |zero=>intro m hm;exact absurd hm (abc m)
 |succ n ih=>
  intro m hm;cases m with
  |zero=>exact⟨eg (fn:=Tryz.f76) (by kernel_rfl) (by kernel_rfl) (by kernel_rfl) (λ_=>rfl),eg (fn:=Tryz.f77) (by kernel_rfl) (by kernel_rfl) (by kernel_rfl) (λ_=>rfl)⟩
  |succ k=>exact⟨r6 k λm hm=>ih m (by omega),qx k λm hm=>ih m (by omega)⟩
theorem vN (n:Nat):bz TZp (LK n):=(mK (n+1) n (aad n)).1
theorem Y3 (n:Nat):bA TZp (Sr n):=Ew n (mK (n+1) n (aad n))
def gI (n:Nat)(x:ξ)(a0:Int):M Unit:=if uL jA x then AI (nr [aV,aV,aV,aV,aV,aV,aV,aV,aV] x) λ(c:Addr×Addr×Addr×Addr×Addr×Addr×Addr×Addr×Addr)=>cW n a0 c.1 c.2.1 c.2.2.1 c.2.2.2.1 c.2.2.2.2.1 c.2.2.2.2.2.1 c.2.2.2.2.2.2.1 c.2.2.2.2.2.2.2.1 c.2.2.2.2.2.2.2.2 else AT
def gb (G:Addr->Int->Addr->Addr->Addr->Int->Int->M Unit)(n:Nat)(a0:Addr)(a1:Int)(a2 a3 a4:Addr)(a5 a6:Int):M Unit:=if decide (a6<a5) then AI (ar .sl a4) λ(x0:Sl)=>AI (ao x0 a6 1) λx1=>AI (bE x1 [vi (-1)]) λx2=>G a0 a1 a2 a3 a4 a5 (i64.wrap (a6+1)) else AS ()
def dY:Nat->Addr->Int->Addr->Addr->Addr->Int->Int->M Unit|0=>λ_ _ _ _ _ _ _=>AT|n+1=>gb (dY n) n
theorem tP (n:Nat):dY (n+1)=gb (dY n) n:=rfl
def iM (n:Nat)(a0:Sl×Int):M (Sl×Sl):=AI (aJ none aj [aS a0.1,vi a0.2]) λx0=>AI (ar .sl ((aw x0).plus 0)) λ(x1:Sl)=>AI (dT 12) λx2=>AI (pT (some (x2+1)) ay [vi 0] (↑x1.len:Int) (↑x1.len:Int)) λx3=>AI (pT (some (x2+3)) ay [vi 0] (↑x1.len:Int) (↑x1.len:Int)) λx4=>AI (pT (some (x2+5)) ay [vi 0] (↑x1.len:Int) (↑x1.len:Int)) λx5=>AI (aJ (some (x2+6)) cw [aZ]) λx6=>AI (aJ (some (x2+7)) cw [aZ]) λx7=>AI (aJ (some (x2+8)) cw [aZ]) λx8=>AI (wb [x2+3,x2+5] (aw x6) (kO [none,none] (bE (aw x6) [aS x3]))) λx9=>AI (wb [x2+5] (aw x7) (kO [none] (bE (aw x7) [aS x4]))) λeU=>AI (bE (aw x8) [aS x5]) λx11=>AI (ar .sl (aw x8)) λ(x12:Sl)=>AI (dY n (aw x0) (↑x1.len:Int) (aw x6) (aw x7) (aw x8) (↑x12.len:Int) 0) λx13=>AI (aJ none cw [aZ]) λx14=>AI (aJ none cw [aZ]) λx15=>AI (pT none yp [.bool false] (↑x1.len:Int) (↑x1.len:Int)) λx16=>AI (aJ none rI [aZ]) λx17=>AI (bE (aw x17) [aS x16]) λx18=>AI (aJ none ay [vi 0]) λx19=>AI (bE (aw x19) [vi 0]) λx20=>AI (aJ none pC [Value.nilFunc]) λx21=>AI (bE (aw x21) [.func (Fn.func jA) #[] #[.pointer (some (aw x19)),.pointer (some (aw x6)),.pointer (some (aw x7)),.pointer (some (aw x15)),.pointer (some (aw x17)),.pointer (some (aw x21)),.pointer (some (aw x0)),.pointer (some (aw x14)),.pointer (some (aw x8))]]) λx22=>AI (ar .raw (aw x21)) λ(x23:ξ)=>AI (ar li ((aw x0).plus 1)) λ(x24:Int)=>AI (gI n x23 x24) λx25=>AI (ar .sl (aw x8)) λ(x26:Sl)=>AI (ar .sl (aw x14)) λ(x27:Sl)=>AS (x26,x27)
abbrev UI (n:Nat):cr:=⟨55,[.agg [.sl,.int .i64]],[cH,cH],λx=>iM n x⟩
abbrev FV:L1:=⟨[0,1,0,1,1,1],[(1,aV),(4,aB),(5,aV),(6,aV),(7,aV),(24,aB),(25,aB)],[],[8]++List.range' 25 7,0,λn=>υ7 (dY n)⟩
abbrev J7 (n:Nat):List jk:=[⟨35,[aB],[],λx a=>gI n x a⟩]
def Qw (i:Nat):Option (List (Nat×η)):=Κ i 2 (Ω [0,2,4,1,3,5,6,7,8]++[(9,[3,5]),(10,[5])]++Ω [11]) (Κ i 14 (Ω [0,2,1,3]) none)
theorem Qx (n:Nat):nP TZp (J7 n):=.cons (eb (l:=[⟨76,[aV,aV,aV,aV,aV,aV,aV,aV,aV],λa c=>cW n a c.1 c.2.1 c.2.2.1 c.2.2.2.1 c.2.2.2.2.1 c.2.2.2.2.2.1 c.2.2.2.2.2.2.1 c.2.2.2.2.2.2.2.1 c.2.2.2.2.2.2.2.2⟩]) (.cons (λa c=>aI (by kernel_rfl) ((vN n) (a,c.1,c.2.1,c.2.2.1,c.2.2.2.1,c.2.2.2.2.1,c.2.2.2.2.2.1,c.2.2.2.2.2.2.1,c.2.2.2.2.2.2.2.1,c.2.2.2.2.2.2.2.2))) .nil) (λx a=>by kernel_rfl)) .nil
theorem ND (n:Nat):kE TZp Tryz.f55 (FV.e n) FV.ws:=L1.ok Tryz.f55 FV n Sr (dt:=J7) (dr:=Qw) (hT:=λm _=>⟨.nil,Y3 m,(Qx m),.nil,.nil⟩)
theorem xq (n:Nat):bz TZp (UI n):=cQ Tryz.f55 (Sr n) (dl:=J7 n) (ll:=[FV.e n]) (dr:=Qw) (hT:=⟨.nil,Y3 n,(Qx n),(.cc (ND n) .nil),.nil⟩)
abbrev UJ (n:Nat):List cr:=UI n::Sr n
theorem V9 (n:Nat):bA TZp (UJ n):=.cons (xq n) (Y3 n)
def ki (G:Addr->Sl->Sl->Bool->Sl->Sl->Int->Int->Int->Sl->Int->Int->Sl->Int->Int->Sl->Int->Int->M Bool)(n:Nat)(a0:Addr)(a1 a2:Sl)(a3:Bool)(a4 a5:Sl)(a6 a7 a8:Int)(a9:Sl)(a10 a11:Int)(a12:Sl)(a13 a14:Int)(a15:Sl)(a16 a17:Int):M Bool:=if decide (a17<a16) then AI (ao a15 a17 1) λx0=>AI (ar li x0) λ(x1:Int)=>AI (ao a1 x1 1) λx2=>AI (ar li x2) λ(x3:Int)=>if decide (x3=a6) then G a0 a1 a2 false a4 a5 a6 a7 a8 a9 a10 a11 a12 a13 a14 a15 a16 (i64.wrap (a17+1)) else AI (ao a4 a6 1) λx4=>AI (ao a1 x1 1) λx5=>AI (ar li x4) λ(x6:Int)=>AI (ar li x5) λ(x7:Int)=>AI (ao a4 x7 1) λx8=>AI (ar li x8) λ(x9:Int)=>AI (ao a4 a6 1) λeU=>AI (bE eU [vi (if x6<x9 then x9 else x6)]) λx11=>G a0 a1 a2 a3 a4 a5 a6 a7 a8 a9 a10 a11 a12 a13 a14 a15 a16 (i64.wrap (a17+1)) else AS a3
def gJ:Nat->Addr->Sl->Sl->Bool->Sl->Sl->Int->Int->Int->Sl->Int->Int->Sl->Int->Int->Sl->Int->Int->M Bool|0=>λ_ _ _ _ _ _ _ _ _ _ _ _ _ _ _ _ _ _=>AT|n+1=>ki (gJ n) n
theorem xr (n:Nat):gJ (n+1)=ki (gJ n) n:=rfl
def gk (G:Addr->Sl->Sl->Bool->Sl->Sl->Int->Int->Int->Sl->Int->Int->Sl->Int->Int->M Bool)(n:Nat)(a0:Addr)(a1 a2:Sl)(a3:Bool)(a4 a5:Sl)(a6 a7 a8:Int)(a9:Sl)(a10 a11:Int)(a12:Sl)(a13 a14:Int):M Bool:=if decide (a14<a13) then AI (ao a12 a14 1) λx0=>AI (ar .sl x0) λ(x1:Sl)=>AI (gJ n a0 a1 a2 a3 a4 a5 a6 a7 a8 a9 a10 a11 a12 a13 a14 x1 (↑x1.len:Int) 0) λx2=>G a0 a1 a2 x2 a4 a5 a6 a7 a8 a9 a10 a11 a12 a13 (i64.wrap (a14+1)) else AS a3
def gK:Nat->Addr->Sl->Sl->Bool->Sl->Sl->Int->Int->Int->Sl->Int->Int->Sl->Int->Int->M Bool|0=>λ_ _ _ _ _ _ _ _ _ _ _ _ _ _ _=>AT|n+1=>gk (gK n) n
theorem mv (n:Nat):gK (n+1)=gk (gK n) n:=rfl
def kj (G:Addr->Sl->Sl->Bool->Sl->Sl->Int->Int->Int->Sl->Int->Int->M Bool)(n:Nat)(a0:Addr)(a1 a2:Sl)(a3:Bool)(a4 a5:Sl)(a6 a7 a8:Int)(a9:Sl)(a10 a11:Int):M Bool:=if decide (a11<a10) then AI (ao a9 a11 1) λx0=>AI (ar li x0) λ(x1:Int)=>AI (dT 15) λx2=>AI (ar .sl (a0.plus 0)) λ(x3:Sl)=>AI (ao x3 x1 5) λx4=>AI (ar .sl (x4.plus 3)) λ(x5:Sl)=>AI (ar .sl (a0.plus 0)) λ(x6:Sl)=>AI (ao x6 x1 5) λx7=>AI (ar .sl (x7.plus 4)) λ(x8:Sl)=>AI (aJ (some (x2+12)) cw [aS x5,aS x8]) λx9=>AI (gK n a0 a1 a2 a3 a4 a5 a6 a7 a8 a9 a10 a11 { a:=some (aw x9),len:=2,cap:=3 } (↑2:Int) 0) λeU=>G a0 a1 a2 eU a4 a5 a6 a7 a8 a9 a10 (i64.wrap (a11+1)) else AS a3
def gL:Nat->Addr->Sl->Sl->Bool->Sl->Sl->Int->Int->Int->Sl->Int->Int->M Bool|0=>λ_ _ _ _ _ _ _ _ _ _ _ _=>AT|n+1=>kj (gL n) n
theorem xu (n:Nat):gL (n+1)=kj (gL n) n:=rfl
def ko (G:Addr->Sl->Sl->Bool->Sl->Sl->Int->Int->M Bool)(n:Nat)(a0:Addr)(a1 a2:Sl)(a3:Bool)(a4 a5:Sl)(a6 a7:Int):M Bool:=if decide (a7<a6) then AI (ao a5 a7 1) λx0=>AI (ar .sl x0) λ(x1:Sl)=>AI (gL n a0 a1 a2 a3 a4 a5 a7 a6 a7 x1 (↑x1.len:Int) 0) λx2=>AI (ao a4 a7 1) λx3=>AI (ao a2 a7 1) λx4=>AI (ar li x3) λ(x5:Int)=>AI (ar li x4) λ(x6:Int)=>AI (ao a4 a7 1) λx7=>AI (bE x7 [vi (i64.wrap (x5+x6))]) λx8=>G a0 a1 a2 x2 a4 a5 a6 (i64.wrap (a7+1)) else AS a3
def gM:Nat->Addr->Sl->Sl->Bool->Sl->Sl->Int->Int->M Bool|0=>λ_ _ _ _ _ _ _ _=>AT|n+1=>ko (gM n) n
theorem xw (n:Nat):gM (n+1)=ko (gM n) n:=rfl
def kp (G:Addr->Sl->Sl->Bool->Sl->Sl->Sl->Int->Int->M Unit)(n:Nat)(a0:Addr)(a1 a2:Sl)(a3:Bool)(a4 a5 a6:Sl)(a7 a8:Int):M Unit:=if decide (a8<a7) then AI (ao a6 a8 1) λx0=>AI (ar li x0) λ(x1:Int)=>AI (ao a5 x1 1) λx2=>AI (ar .sl x2) λ(x3:Sl)=>AI (app false x3 1 ay 1 [vi a8]) λx4=>AI (ao a5 x1 1) λx5=>AI (bE x5 [aS x4]) λx6=>G a0 a1 a2 a3 a4 a5 a6 a7 (i64.wrap (a8+1)) else AS ()
def gN:Nat->Addr->Sl->Sl->Bool->Sl->Sl->Sl->Int->Int->M Unit|0=>λ_ _ _ _ _ _ _ _ _=>AT|n+1=>kp (gN n) n
theorem xx (n:Nat):gN (n+1)=kp (gN n) n:=rfl
def lN (n:Nat)(a0:Sl×Int):M (Int×Bool):=AI (aJ none aj [aS a0.1,vi a0.2]) λx0=>AI (bh [.sl,li] (aw x0)) λ(x1:Sl×Int)=>AI (iM n (x1.1,x1.2)) λx2=>AI (pT none ay [vi 0] (↑x2.2.len:Int) (↑x2.2.len:Int)) λx3=>AI (pT none cw [aZ] (↑x2.2.len:Int) (↑x2.2.len:Int)) λx4=>AI (gN n (aw x0) x2.1 x2.2 true x3 x4 x2.1 (↑x2.1.len:Int) 0) λx5=>AI (gM n (aw x0) x2.1 x2.2 true x3 x4 (↑x2.2.len:Int) 0) λx6=>AI (ar li ((aw x0).plus 1)) λ(x7:Int)=>AI (ao x2.1 x7 1) λx8=>AI (ar li x8) λ(x9:Int)=>AI (ao x3 x9 1) λeU=>AI (ar li eU) λ(x11:Int)=>AS (i64.wrap (x11-1),x6)
abbrev UK (n:Nat):cr:=⟨34,[.agg [.sl,.int .i64]],[aB,kP],λx=>lN n x⟩
abbrev FW:L1:=⟨[0,1,0,1,1,1,1,1],[(1,aV),(4,cH),(5,cH),(6,kP),(7,cH),(8,cH),(29,cH),(30,aB),(31,aB)],[],[9,10]++List.range' 31 16,0,λn=>υ9 (gN n)⟩
abbrev FX:L1:=⟨[0,1,0,1,1,1,1,1,1],[(1,aV),(4,cH),(5,cH),(6,kP),(7,cH),(8,cH),(48,aB),(49,aB)],[(6,kP)],[6,11,13,15,17]++List.range' 49 71,2,λn=>υ8 (gM n)⟩
abbrev FY:L1:=⟨[0,1,0,1,0,0,1,1,0,0,1,0,1,1,1,1,1,1],[(1,aV),(4,cH),(5,cH),(6,kP),(7,cH),(8,cH),(11,aB),(48,aB),(49,aB),(55,cH),(56,aB),(57,aB)],[(6,kP)],[6,13,15,17]++List.range' 57 52,4,λn=>υ12 (gL n)⟩
abbrev FZ:L1:=⟨[0,1,1,0,0,1,1,0,0,1,0,1,0,0,1,1,0,0,1,0,1,1,1,1,1,1],[(1,aV),(4,cH),(5,cH),(6,kP),(7,cH),(8,cH),(11,aB),(48,aB),(49,aB),(55,cH),(56,aB),(57,aB),(73,cH),(74,aB),(75,aB)],[(6,kP)],[6,15,17]++List.range' 75 33,6,λn=>υ15 (gK n)⟩
abbrev F4:L1:=⟨[0,1,1,0,0,1,1,0,0,1,1,0,0,1,1,0,0,1,0,1,0,0,1,1,0,0,1,0,1,1,1,1,1,1],[(1,aV),(4,cH),(5,cH),(6,kP),(7,cH),(8,cH),(11,aB),(48,aB),(49,aB),(55,cH),(56,aB),(57,aB),(73,cH),(74,aB),(75,aB),(79,cH),(80,aB),(81,aB)],[(6,kP)],[6,17]++List.range' 81 26,8,λn=>υ18 (gJ n)⟩
def Aj (i:Nat):Option (List (Nat×η)):=Κ i 16 (Ω [0,2,6,8,14,1,3,4,5,7,9,10,11,12,13]) (Κ i 24 (Ω [0,1,2,3,4,6,7,8,9,5,10,11,12,13,14,15]) (Κ i 28 (Ω [0,1,2,4,5,6,3,7,8,9,10]) none))
theorem NF (n:Nat):kE TZp Tryz.f34 (F4.e n) F4.ws:=L1.ok Tryz.f34 F4 n UJ (dr:=Aj) (hT:=λm _=>.m1 (V9 m))
theorem NG (n:Nat):kE TZp Tryz.f34 (FZ.e n) FZ.ws:=L1.ok Tryz.f34 FZ n UJ (lt:=λn=>[F4.e n]) (dr:=Aj) (hT:=λm _=>⟨.nil,V9 m,.nil,(.cc (NF m) .nil),.nil⟩)
theorem NH (n:Nat):kE TZp Tryz.f34 (FY.e n) FY.ws:=L1.ok Tryz.f34 FY n UJ (lt:=λn=>[FZ.e n]) (dr:=Aj) (hT:=λm _=>⟨.nil,V9 m,.nil,(.cc (NG m) .nil),.nil⟩)
theorem NI (n:Nat):kE TZp Tryz.f34 (FX.e n) FX.ws:=L1.ok Tryz.f34 FX n UJ (lt:=λn=>[FY.e n]) (dr:=Aj) (hT:=λm _=>⟨.nil,V9 m,.nil,(.cc (NH m) .nil),.nil⟩)
theorem NJ (n:Nat):kE TZp Tryz.f34 (FW.e n) FW.ws:=L1.ok Tryz.f34 FW n UJ (dr:=Aj) (hT:=λm _=>.m1 (V9 m))
theorem CS (n:Nat):bz TZp (UK n):=cQ Tryz.f34 (UJ n) (ll:=[FW.e n,FX.e n]) (dr:=Aj) (hT:=⟨.nil,V9 n,.nil,(.cc (NJ n) (.cc (NI n) .nil)),.nil⟩)
abbrev XZ (n:Nat):List cr:=UK n::UJ n
theorem Yz (n:Nat):bA TZp (XZ n):=.cons (CS n) (V9 n)
def kq (G:Addr->Sl->Sl->Int->Int->M (Unit⊕Int))(n:Nat)(a0:Addr)(a1 a2:Sl)(a3 a4:Int):M (Unit⊕Int):=if decide (a4<a3) then AI (ao a2 a4 1) λx0=>AI (ar .bool x0) λ(x1:Bool)=>if x1 then AI (ao a1 a4 1) λx2=>AI (ar li x2) λ(x3:Int)=>if !decide (x3=1) then AS (Sum.inr 3) else G a0 a1 a2 a3 (i64.wrap (a4+1)) else G a0 a1 a2 a3 (i64.wrap (a4+1)) else AS (Sum.inl ())
def gO:Nat->Addr->Sl->Sl->Int->Int->M (Unit⊕Int)|0=>λ_ _ _ _ _=>AT|n+1=>kq (gO n) n
theorem xy (n:Nat):gO (n+1)=kq (gO n) n:=rfl
def kr (G:Addr->Sl->Sl->Int->Int->M (Unit⊕Int))(n:Nat)(a0:Addr)(a1 a2:Sl)(a3 a4:Int):M (Unit⊕Int):=if decide (a4<a3) then AI (ao a2 a4 5) λx0=>AI (bh [li,.str,.bool,.sl,.sl] x0) λ(x1:Int×ζ×Bool×Sl×Sl)=>AI (aJ none aH [vi 0,.string (ofBytes []),.bool false,aZ,aZ]) λx2=>AI (bE (aw x2) [vi x1.1,.string x1.2.1,.bool x1.2.2.1,aS x1.2.2.2.1,aS x1.2.2.2.2]) λx3=>AI (ao a1 a4 1) λx4=>AI (ar .bool x4) λ(x5:Bool)=>if !x5 then AS (Sum.inr 3) else AI (bh [li,.str,.bool,.sl,.sl] (aw x2)) λ(x6:Int×ζ×Bool×Sl×Sl)=>AI (pG n (x6.1,x6.2.1,x6.2.2.1,x6.2.2.2.1,x6.2.2.2.2)) λx7=>if !x7 then AS (Sum.inr 3) else G a0 a1 a2 a3 (i64.wrap (a4+1)) else AS (Sum.inl ())
def gP:Nat->Addr->Sl->Sl->Int->Int->M (Unit⊕Int)|0=>λ_ _ _ _ _=>AT|n+1=>kr (gP n) n
theorem xz (n:Nat):gP (n+1)=kr (gP n) n:=rfl
def lO (n:Nat)(a0:Addr):M Int:=AI (ar .sl (a0.plus 0)) λ(x0:Sl)=>AI (pT none yp [.bool false] (↑x0.len:Int) (↑x0.len:Int)) λx1=>AI (bh [.sl,li] a0) λ(x2:Sl×Int)=>AI (ar li (a0.plus 1)) λ(x3:Int)=>AI (jQ n (x2.1,x2.2) x3 x1) λx4=>AI (ar .sl (a0.plus 0)) λ(x5:Sl)=>AI (gP n a0 x1 x5 (↑x5.len:Int) 0) (cn (λx6=>AI (bh [.sl,li] a0) λ(x7:Sl×Int)=>AI (kV n (x7.1,x7.2)) λx8=>AI (bh [.sl,li] a0) λ(x9:Sl×Int)=>AI (l7 n (x9.1,x9.2)) λeU=>AI (gO n a0 x8 eU (↑eU.len:Int) 0) (cn (λx11=>AI (bh [.sl,li] a0) λ(x12:Sl×Int)=>AI (nL n (x12.1,x12.2)) λx13=>if x13 then AS 8 else AI (bh [.sl,li] a0) λ(x14:Sl×Int)=>AI (lN n (x14.1,x14.2)) λx15=>if decide (32<x15.1) then AS 5 else AS 0) (λx11=>AS x11))) (λx6=>AS x6))
def dD (n:Nat)(a0:Sl×Int):M Int:=AI (aJ none aj [aS a0.1,vi a0.2]) λx0=>AI (ar .sl ((aw x0).plus 0)) λ(x1:Sl)=>if decide (4096<(↑x1.len:Int)) then AS 7 else AI (ar .sl ((aw x0).plus 0)) λ(x2:Sl)=>if decide ((↑x2.len:Int)=0) then AS 3 else AI (bh [.sl,li] (aw x0)) λ(x3:Sl×Int)=>AI (lu n (x3.1,x3.2)) λx4=>if !x4 then AS 3 else lO n (aw x0)
abbrev UL (n:Nat):cr:=⟨13,[.agg [.sl,.int .i64]],[aB],λx=>dD n x⟩
abbrev F5:L2:=⟨[0,1,0,1,1,1,1,1],[(1,aV),(3,cH),(34,cH),(35,aB),(36,aB)],[],[(2,aB)],[2,4,5]++List.range' 36 16,0,.ret,λn=>υ5 (gP n)⟩
abbrev F6:L2:=⟨[0,1,0,1,1,1,1,1,1,1],[(1,aV),(6,cH),(55,cH),(56,aB),(57,aB)],[],[(2,aB)],[2,7,8]++List.range' 57 14,2,.ret,λn=>υ5 (gO n)⟩
abbrev Wa (n:Nat):List (jd Int):=[⟨[0,1,1,1],[.code [1,1,1,1]],[(1,aV)],λx=>lO n x⟩]
theorem NK (n:Nat):kE TZp Tryz.f13 (F6.e n) F6.ws:=L2.ok Tryz.f13 F6 n XZ (hT:=λm _=>.m1 (Yz m))
theorem NL (n:Nat):kE TZp Tryz.f13 (F5.e n) F5.ws:=L2.ok Tryz.f13 F5 n XZ (hT:=λm _=>.m1 (Yz m))
theorem CT (n:Nat):bz TZp (UL n):=cQ Tryz.f13 (XZ n) (ll:=[F5.e n,F6.e n]) (js:=Wa n) (hT:=⟨.nil,Yz n,.nil,(.cc (NL n) (.cc (NK n) .nil)),(.cc .nil)⟩)
abbrev ZZ (n:Nat):List cr:=UL n::XZ n
theorem K17 (n:Nat):bA TZp (ZZ n):=.cons (CT n) (Yz n)
structure bX where
 iV:Addr->Addr->Int->Sl->Sl->Sl->Int->Int->M Sl
 iW:Addr->Addr->Int->Addr->Sl->Sl->Sl->Int->Int->M Sl
 jL:Int->Addr->Addr->Addr->M Int
def oo (G:bX)(n:Nat)(x:ξ)(a0:Int):M Int:=if uL tJ x then AI (nr [aV,aV,aV] x) λ(c:Addr×Addr×Addr)=>G.jL a0 c.1 c.2.1 c.2.2 else AT
abbrev sV:=oo
def pH (G:bX)(n:Nat)(a0 a1:Addr)(a2:Int)(a3 a4 a5:Sl)(a6 a7:Int):M Sl:=if decide (a7<a6) then AI (ao a5 a7 1) λx0=>AI (ar li x0) λ(x1:Int)=>AI (ar .raw a1) λ(x2:ξ)=>AI (sV G n x2 x1) λx3=>AI (app false a4 1 ay 1 [vi x3]) λx4=>G.iV a0 a1 a2 a3 x4 a5 a6 (i64.wrap (a7+1)) else AS a4
def pI (G:bX)(n:Nat)(a0 a1:Addr)(a2:Int)(a3:Addr)(a4 a5 a6:Sl)(a7 a8:Int):M Sl:=if decide (a8<a7) then AI (ao a6 a8 1) λx0=>AI (ar li x0) λ(x1:Int)=>AI (ar .raw a1) λ(x2:ξ)=>AI (oo G n x2 x1) λx3=>AI (app false a4 1 ay 1 [vi x3]) λx4=>G.iW a0 a1 a2 a3 x4 a5 a6 a7 (i64.wrap (a8+1)) else AS a4
def tQ (G:bX)(n:Nat)(a0:Int)(a1 a2 a3:Addr):M Int:=AI (ar .sl (a1.plus 0)) λ(x0:Sl)=>AI (ar .sl (a2.plus 0)) λ(x1:Sl)=>AI (ao x1 a0 5) λx2=>AI (bh [li,.str,.bool,.sl,.sl] x2) λ(x3:Int×ζ×Bool×Sl×Sl)=>AI (aJ none aH [vi 0,.string (ofBytes []),.bool false,aZ,aZ]) λx4=>AI (bE (aw x4) [vi x3.1,.string x3.2.1,.bool x3.2.2.1,aS x3.2.2.2.1,aS x3.2.2.2.2]) λx5=>AI (ar .sl (a1.plus 0)) λ(x6:Sl)=>AI (ar li ((aw x4).plus 0)) λ(x7:Int)=>AI (ar .str ((aw x4).plus 1)) λ(x8:ζ)=>AI (ar .bool ((aw x4).plus 2)) λ(x9:Bool)=>AI (app false x6 5 aH 1 [vi x7,.string x8,.bool x9,aZ,aZ]) λeU=>AI (bE (a1.plus 0) [aS eU]) λx11=>AI (ar .sl ((aw x4).plus 3)) λ(x12:Sl)=>AI (G.iW a1 a3 (↑x0.len:Int) (aw x4) jb jb x12 (↑x12.len:Int) 0) λx13=>AI (ar .sl ((aw x4).plus 4)) λ(x14:Sl)=>AI (G.iV a1 a3 (↑x0.len:Int) x13 jb x14 (↑x14.len:Int) 0) λx15=>AI (ar .sl (a1.plus 0)) λ(x16:Sl)=>AI (ao x16 (↑x0.len:Int) 5) λx17=>AI (ar .sl (a1.plus 0)) λ(x18:Sl)=>AI (kO [some (a1.plus 0)] (bE (x17.plus 3) [aS x13])) λx19=>AI (ao x18 (↑x0.len:Int) 5) λx20=>AI (bE (x20.plus 4) [aS x15]) λx21=>AS (↑x0.len:Int)
def bX.at:Nat->bX|0=>⟨λ_ _ _ _ _ _ _ _=>AT,λ_ _ _ _ _ _ _ _ _=>AT,λ_ _ _ _=>AT⟩|n+1=>⟨pH (bX.at n) n,pI (bX.at n) n,tQ (bX.at n) n⟩
def iV (n:Nat):=(bX.at n).iV
theorem xA (n:Nat):iV (n+1)=pH (bX.at n) n:=rfl
def iW (n:Nat):=(bX.at n).iW
theorem xB (n:Nat):iW (n+1)=pI (bX.at n) n:=rfl
def jL (n:Nat):=(bX.at n).jL
theorem Ak (n:Nat):jL (n+1)=tQ (bX.at n) n:=rfl
def Bk (n:Nat):=oo (bX.at n) n
def Bl (n:Nat):=sV (bX.at n) n
abbrev LL (n:Nat):cr:=⟨78,[aB,aV,aV,aV],[aB],υ4 (jL n)⟩
abbrev F7:L1:=⟨[0,1,0,1,1,1,1,1],[(1,aV),(3,aV),(6,aB),(7,aV),(8,cH),(9,cH),(35,cH),(36,aB),(37,aB)],[(8,cH)],[8,11]++List.range' 37 11,0,λn=>υ9 (iW n)⟩
abbrev F8:L1:=⟨[0,1,0,1,1,1,1,1,1],[(1,aV),(3,aV),(6,aB),(8,cH),(9,cH),(49,cH),(50,aB),(51,aB)],[(9,cH)],[9,13]++List.range' 51 11,2,λn=>υ8 (iV n)⟩
abbrev Wb (n:Nat):List cr:=LL n::ZZ n
abbrev F9 (n:Nat):List jk:=[⟨42,[aB],[aB],λx a=>Bk n x a⟩, ⟨56,[aB],[aB],λx a=>Bl n x a⟩]
def J8 (i:Nat):Option (List (Nat×η)):=Κ i 15 (Ω [0,2,3,5,6,7,1,8,9,4]++[(10,[4])]++Ω [11,12,13]) none
def lv (n:Nat):Prop:=bz TZp (LL n)
theorem LM (n:Nat)(H:lv n):bA TZp (Wb n):=.cons H (K17 n)
theorem J9 (n:Nat)(H:lv n):nP TZp (F9 n):=.cons (eb (l:=[⟨78,[aV,aV,aV],λa c=>jL n a c.1 c.2.1 c.2.2⟩]) (.cons (λa c=>aI (by kernel_rfl) ((H) (a,c.1,c.2.1,c.2.2))) .nil) (λx a=>by kernel_rfl)) (.cons (eb (l:=[⟨78,[aV,aV,aV],λa c=>jL n a c.1 c.2.1 c.2.2⟩]) (.cons (λa c=>aI (by kernel_rfl) ((H) (a,c.1,c.2.1,c.2.2))) .nil) (λx a=>by kernel_rfl)) .nil)
theorem NM (n:Nat)(H:∀m,m<n->lv m):kE TZp Tryz.f78 (F8.e n) F8.ws:=L1.ok Tryz.f78 F8 n Wb (dt:=F9) (dr:=J8) (hT:=λm hm=>⟨.nil,LM m (H m hm),(J9 m (H m hm)),.nil,.nil⟩)
theorem NN (n:Nat)(H:∀m,m<n->lv m):kE TZp Tryz.f78 (F7.e n) F7.ws:=L1.ok Tryz.f78 F7 n Wb (dt:=F9) (dr:=J8) (hT:=λm hm=>⟨.nil,LM m (H m hm),(J9 m (H m hm)),.nil,.nil⟩)
theorem xC (n:Nat)(H:∀m,m<n+1->lv m):bz TZp (LL (n+1)):=cQ Tryz.f78 (Wb n) (dl:=F9 n) (ll:=[F7.e n,F8.e n]) (dr:=J8) (hT:=⟨.nil,LM n (H n (aad n)),(J9 n (H n (aad n))),(.cc (NN n (λk hk=>H k (aal hk))) (.cc (NM n (λk hk=>H k (aal hk))) .nil)),.nil⟩)
theorem sW:∀n m,m<n->lv m:=by
 intro n
 induction n with
 |zero=>intro m hm;exact absurd hm (abc m)
 |succ n ih=>
  intro m hm;cases m with
  |zero=>exact eg (fn:=Tryz.f78) (by kernel_rfl) (by kernel_rfl) (by kernel_rfl) (λ_=>rfl)
  |succ k=>exact xC k λm hm=>ih m (by omega)
theorem CU (n:Nat):bz TZp (LL n):=(sW (n+1) n (aad n))
theorem Z0 (n:Nat):bA TZp (Wb n):=LM n (sW (n+1) n (aad n))
def vd (n:Nat)(x:ξ)(a0:Int):M Int:=if uL tJ x then AI (nr [aV,aV,aV] x) λ(c:Addr×Addr×Addr)=>jL n a0 c.1 c.2.1 c.2.2 else AT
def xe (n:Nat)(a0:Sl×Int)(a1:Int):M (Sl×Int):=AI (aJ none aj [aS a0.1,vi a0.2]) λx0=>AI (aJ none aj [aZ,vi 0]) λx1=>AI (aJ none aj [aZ,vi 0]) λx2=>AI (aJ none DT [Value.nilFunc]) λx3=>AI (bE (aw x3) [.func (Fn.func tJ) #[] #[.pointer (some (aw x2)),.pointer (some (aw x0)),.pointer (some (aw x3))]]) λx4=>AI (ar .raw (aw x3)) λ(x5:ξ)=>AI (vd n x5 a1) λx6=>AI (bh [.sl,li] (aw x2)) λ(x7:Sl×Int)=>AI (bE (aw x1) [aS x7.1,vi x7.2]) λx8=>AI (bh [.sl,li] (aw x1)) λ(x9:Sl×Int)=>AS (x9.1,x9.2)
abbrev UM (n:Nat):cr:=⟨56,[.agg [.sl,.int .i64],aB],[.agg [.sl,.int .i64]],υ2 (xe n)⟩
abbrev Qy (n:Nat):List jk:=[⟨8,[aB],[aB],λx a=>vd n x a⟩]
theorem Wc (n:Nat):nP TZp (Qy n):=.cons (eb (l:=[⟨78,[aV,aV,aV],λa c=>jL n a c.1 c.2.1 c.2.2⟩]) (.cons (λa c=>aI (by kernel_rfl) ((CU n) (a,c.1,c.2.1,c.2.2))) .nil) (λx a=>by kernel_rfl)) .nil
theorem Ga (n:Nat):bz TZp (UM n):=cQ Tryz.f56 (Wb n) (dl:=Qy n) (hT:=⟨.nil,Z0 n,(Wc n),.nil,.nil⟩)
abbrev Y4 (n:Nat):List cr:=UM n::Wb n
theorem Z1 (n:Nat):bA TZp (Y4 n):=.cons (Ga n) (Z0 n)
def sX (n:Nat)(a0:Sl×Int):M (Int×Bool):=AI (aJ none aj [aS a0.1,vi a0.2]) λx0=>AI (bh [.sl,li] (aw x0)) λ(x1:Sl×Int)=>AI (dD n (x1.1,x1.2)) λx2=>if !decide (x2=0) then AS (0,false) else AI (bh [.sl,li] (aw x0)) λ(x3:Sl×Int)=>AI (lN n (x3.1,x3.2)) λx4=>AS (x4.1,x4.2)
abbrev Qz (n:Nat):cr:=⟨109,[.agg [.sl,.int .i64]],[aB,kP],λx=>sX n x⟩
theorem CV (n:Nat):bz TZp (Qz n):=cQ Tryz.f109 (Y4 n) (hT:=.m1 (Z1 n))
abbrev Y5 (n:Nat):List cr:=Qz n::Y4 n
theorem Z2 (n:Nat):bA TZp (Y5 n):=.cons (CV n) (Z1 n)
def mL (n:Nat)(a0:Sl×Int):M Int:=AI (aJ none aj [aS a0.1,vi a0.2]) λx0=>AI (bh [.sl,li] (aw x0)) λ(x1:Sl×Int)=>AI (dD n (x1.1,x1.2)) λx2=>if !decide (x2=0) then AS 3 else AI (bh [.sl,li] (aw x0)) λ(x3:Sl×Int)=>AI (sX n (x3.1,x3.2)) λx4=>if !x4.2 then AS 14 else AS 0
abbrev UN (n:Nat):cr:=⟨79,[.agg [.sl,.int .i64]],[aB],λx=>mL n x⟩
theorem Al (n:Nat):bz TZp (UN n):=cQ Tryz.f79 (Y5 n) (hT:=.m1 (Z2 n))
abbrev YA (n:Nat):List cr:=UN n::Y5 n
theorem Y6 (n:Nat):bA TZp (YA n):=.cons (Al n) (Z2 n)
def zq (G:Sl->Sl->Int->M (Unit⊕Int))(n:Nat)(a0 a1:Sl)(a2:Int):M (Unit⊕Int):=if decide (0<=a2) then AI (ao a0 a2 1) λx0=>AI (ao a1 a2 1) λx1=>AI (ar (.int IntKind.u8) x0) λ(x2:Int)=>AI (ar (.int IntKind.u8) x1) λ(x3:Int)=>if !decide (x2=x3) then AI (ao a0 a2 1) λx4=>AI (ao a1 a2 1) λx5=>AI (ar (.int IntKind.u8) x4) λ(x6:Int)=>AI (ar (.int IntKind.u8) x5) λ(x7:Int)=>if decide (x6<x7) then AS (Sum.inr (-1)) else AS (Sum.inr 1) else G a0 a1 (i64.wrap (a2-1)) else AS (Sum.inl ())
def qy:Nat->Sl->Sl->Int->M (Unit⊕Int)|0=>λ_ _ _=>AT|n+1=>zq (qy n) n
def ve (n:Nat)(a0 a1:Sl):M Int:=if !decide ((↑a0.len:Int)=(↑a1.len:Int)) then if decide ((↑a0.len:Int)<(↑a1.len:Int)) then AS (-1) else AS 1 else AI (qy n a0 a1 (i64.wrap ((↑a0.len:Int)-1))) (cn (λx0=>AS 0) (λx0=>AS x0))
abbrev QA (n:Nat):cr:=⟨192,[cH,cH],[aB],υ2 (ve n)⟩
abbrev BO:L2:=⟨[0,1,0,1,1],[(0,cH),(1,cH),(5,aB)],[],[(4,aB)],[4,5]++List.range' 19 22,0,.ret,λn=>υ3 (qy n)⟩
def LO (i:Nat):Option (List (Nat×η)):=Κ i 8 (Ω [0,1,2,4,5,6,3,7,8]) (Κ i 9 (Ω [0,1,2,4,5,6,3,7,8]) none)
theorem Kc (n:Nat):kE TZp Tryz.f192 (BO.e n) BO.ws:=L2.ok Tryz.f192 BO n YA (dr:=LO) (hT:=λm _=>.m1 (Y6 m))
theorem Bm (n:Nat):bz TZp (QA n):=cQ Tryz.f192 (YA n) (ll:=[BO.e n]) (dr:=LO) (hT:=⟨.nil,Y6 n,.nil,(.cc (Kc n) .nil),.nil⟩)
abbrev Y7 (n:Nat):List cr:=QA n::YA n
theorem Z3 (n:Nat):bA TZp (Y7 n):=.cons (Bm n) (Y6 n)
def lP (n:Nat)(a0 a1:Addr):M Int:=AI (ar .bool (a0.plus 0)) λ(x0:Bool)=>if x0 then AI (ar .sl (a1.plus 1)) λ(x1:Sl)=>AI (ar .sl (a0.plus 1)) λ(x2:Sl)=>AI (ve n x1 x2) λx3=>AS x3 else AI (ar .sl (a0.plus 1)) λ(x1:Sl)=>AI (ar .sl (a1.plus 1)) λ(x2:Sl)=>AI (ve n x1 x2) λx3=>AS x3
def wF (n:Nat)(a0 a1:Addr):M Int:=AI (ar .bool (a0.plus 0)) λ(x0:Bool)=>if x0 then AI (ar .bool (a1.plus 0)) λ(x1:Bool)=>if !x1 then AS (-1) else AI (ar .bool (a0.plus 0)) λ(x2:Bool)=>if !x2 then AI (ar .bool (a1.plus 0)) λ(x3:Bool)=>if x3 then AS 1 else lP n a0 a1 else lP n a0 a1 else AI (ar .bool (a0.plus 0)) λ(x1:Bool)=>if !x1 then AI (ar .bool (a1.plus 0)) λ(x2:Bool)=>if x2 then AS 1 else lP n a0 a1 else lP n a0 a1
def A3 (n:Nat)(a0 a1:ζ):M Int:=AI (jF n a0) λx0=>AI (aJ none aM [.bool false,aZ]) λx1=>AI (bE (aw x1) [.bool x0.1.1,aS x0.1.2]) λx2=>AI (jF n a1) λx3=>AI (aJ none aM [.bool false,aZ]) λx4=>AI (bE (aw x4) [.bool x3.1.1,aS x3.1.2]) λx5=>if !x0.2 then AS 0 else if !x3.2 then AS 0 else wF n (aw x1) (aw x4)
abbrev QB (n:Nat):cr:=⟨167,[yR,yR],[aB],υ2 (A3 n)⟩
abbrev Tv (n:Nat):List (jd Int):=[⟨[0,0,0,1,1,1,1],[.code [1,0,0,1,1,1,1],.aD 0,.code [1,1,1,1,1]],[(5,aV),(7,aV)],υ2 (wF n)⟩, ⟨[0,1,1,1,1,0,0,1,1,1,1],[.code [1,1,1,1,1,0,0,1,1,1,1],.aD 0,.code [1,1,1,1,1]],[(5,aV),(7,aV)],υ2 (lP n)⟩]
theorem CW (n:Nat):bz TZp (QB n):=cQ Tryz.f167 (Y7 n) (js:=Tv n) (hT:=⟨.nil,Z3 n,.nil,.nil,(.cc (.cc .nil))⟩)
abbrev Y8 (n:Nat):List cr:=QB n::Y7 n
theorem Z4 (n:Nat):bA TZp (Y8 n):=.cons (CW n) (Z3 n)
def ri (n:Nat)(a0:Int)(a1 a2:ζ):M Int:=if pj a1 a2 then AS 0 else if decide (a0=2) then AI (A3 n a1 a2) λx0=>AS x0 else if decide (a0=3) then AT else if decide (a0=4) then if pj a1 (ofBytes [110,97,110]) then AS 1 else if pj a2 (ofBytes [110,97,110]) then AS (-1) else AT else AI (strings_Compare n a1 a2) λx0=>AS x0
abbrev QC (n:Nat):cr:=⟨141,[aB,yR,yR],[aB],υ3 (ri n)⟩
theorem Bn (n:Nat):bz TZp (QC n):=cQ Tryz.f141 (Y8 n) (hT:=.m1 (Z4 n))
abbrev Y9 (n:Nat):List cr:=QC n::Y8 n
theorem Z5 (n:Nat):bA TZp (Y9 n):=.cons (Bn n) (Z4 n)
def aG (n:Nat)(a0 a1:Int)(a2 a3:Addr):M Int:=AI (ar .ptr a2) λ(x0:θ)=>AI (nn x0) λx1=>AI (ar .sl ((x1.plus 0).plus 0)) λ(x2:Sl)=>AI (ar .sl (a3.plus 3)) λ(x3:Sl)=>AI (ao x3 a0 1) λx4=>AI (ar li x4) λ(x5:Int)=>AI (ao x2 x5 5) λx6=>AI (ar .str (x6.plus 1)) λ(x7:ζ)=>AI (ar .ptr a2) λ(x8:θ)=>AI (nn x8) λx9=>AI (ar .sl ((x9.plus 0).plus 0)) λ(eU:Sl)=>AI (ar .sl (a3.plus 3)) λ(x11:Sl)=>AI (ao x11 a1 1) λx12=>AI (ar li x12) λ(x13:Int)=>AI (ao eU x13 5) λx14=>AI (ar .str (x14.plus 1)) λ(x15:ζ)=>AI (strings_Compare n x7 x15) λx16=>AS x16
abbrev UO (n:Nat):cr:=⟨42,[aB,aB,aV,aV],[aB],υ4 (aG n)⟩
def Wd (i:Nat):Option (List (Nat×η)):=Κ i 1 (Ω [5,7,18,20,0,1,2,3,4,6,8,9,10,11,12,13,14,15,16,17,19,21,22,23,24,25,26,27]) none
theorem aF (n:Nat):bz TZp (UO n):=cQ Tryz.f42 (Y9 n) (dr:=Wd) (hT:=.m1 (Z5 n))
abbrev Za (n:Nat):List cr:=UO n::Y9 n
theorem Z6 (n:Nat):bA TZp (Za n):=.cons (aF n) (Z5 n)
def p6 (n:Nat)(a0:Int):M Int:=AI (jo n a0) λx0=>AS x0
abbrev UP (n:Nat):cr:=⟨65,[.one (.int .u64)],[aB],λx=>p6 n x⟩
theorem Am (n:Nat):bz TZp (UP n):=cQ Tryz.f65 (Za n) (hT:=.m1 (Z6 n))
abbrev Zb (n:Nat):List cr:=UP n::Za n
theorem Z7 (n:Nat):bA TZp (Zb n):=.cons (Am n) (Z6 n)
def pw (n:Nat)(a0:Int):M Int:=AI (p6 n (IntKind.u64.wrap a0)) λx0=>AI (xZ (decide (0<=x0))) λx1=>AS (IntKind.u64.wrap (1*2^min (Int.toNat x0) 64))
abbrev QD (n:Nat):cr:=⟨112,[aB],[.one (.int .u64)],λx=>pw n x⟩
theorem tR (n:Nat):bz TZp (QD n):=cQ Tryz.f112 (Zb n) (hT:=.m1 (Z7 n))
abbrev Zc (n:Nat):List cr:=QD n::Zb n
theorem Z8 (n:Nat):bA TZp (Zc n):=.cons (tR n) (Z7 n)
def qh (n:Nat)(a0:θ):M Int:=AI (nn a0) λx0=>AI (nn a0) λx1=>AI (ar (.int IntKind.u64) x0) λ(x2:Int)=>AI (ar (.int IntKind.u64) x1) λ(x3:Int)=>AI (xZ (decide (0<=13))) λx4=>AI (nn a0) λx5=>AI (bE x5 [.int IntKind.u64 (IntKind.u64.wrap (↑(BitVec.ofInt 64 x2^^^BitVec.ofInt 64 (IntKind.u64.wrap (x3*2^13))).toNat:Int))]) λx6=>AI (nn a0) λx7=>AI (nn a0) λx8=>AI (ar (.int IntKind.u64) x7) λ(x9:Int)=>AI (ar (.int IntKind.u64) x8) λ(eU:Int)=>AI (xZ (decide (0<=7))) λx11=>AI (nn a0) λx12=>AI (bE x12 [.int IntKind.u64 (IntKind.u64.wrap (↑(BitVec.ofInt 64 x9^^^BitVec.ofInt 64 (Int.fdiv eU (2^7))).toNat:Int))]) λx13=>AI (nn a0) λx14=>AI (nn a0) λx15=>AI (ar (.int IntKind.u64) x14) λ(x16:Int)=>AI (ar (.int IntKind.u64) x15) λ(x17:Int)=>AI (xZ (decide (0<=17))) λx18=>AI (nn a0) λx19=>AI (bE x19 [.int IntKind.u64 (IntKind.u64.wrap (↑(BitVec.ofInt 64 x16^^^BitVec.ofInt 64 (IntKind.u64.wrap (x17*2^17))).toNat:Int))]) λx20=>AI (nn a0) λx21=>AI (ar (.int IntKind.u64) x21) λ(x22:Int)=>AS x22
abbrev QE (n:Nat):cr:=⟨113,[rW],[.one (.int .u64)],λx=>qh n x⟩
def Tw (i:Nat):Option (List (Nat×η)):=Κ i 1 (Ω [0,1,3,4,2,5,6,7,8,9]) (Κ i 2 (Ω [0,1,3,4,2,5,6,7,8,9]) (Κ i 3 (Ω [0,1,3,4,2,5,6,7,8,9]) none))
theorem um (n:Nat):bz TZp (QE n):=cQ Tryz.f113 (Zc n) (dr:=Tw) (hT:=.m1 (Z8 n))
abbrev YB (n:Nat):List cr:=QE n::Zc n
theorem Zd (n:Nat):bA TZp (YB n):=.cons (um n) (Z8 n)
end Go.Sh
