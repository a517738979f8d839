
import Derived.Test.YtengdffgmpghgaaGreatDoorSh3
set_option linter.all false
set_option maxRecDepth 100000
set_option maxHeartbeats 0
namespace Go.Sh
open Go Go.Ago Go.Proofs Go.IntKind Go.Proofs.Tryz
variable (n:Nat)
def CG (n:Nat)(a0:Int)(a1:Addr):M (ζ×Int):=L11 (a1.plus 1) λx0=>L15 (a1.plus 4) λx1=>L12 x1 a0 9 λx2=>L10 (x2.plus 3) λx3=>L15 (a1.plus 4) λx4=>L12 x4 a0 9 λx5=>L10 (x5.plus 4) λx6=>sh (hY x0 x3 x6) λx7=>AI (x7,0)
def IY (a0:Int×ζ×Sl×Int×Sl×Sl)(a1:Int):M (ζ×Int):=sh (aJ none fI [vi a0.1,.string a0.2.1,aM a0.2.2.1,vi a0.2.2.2.1,aM a0.2.2.2.2.1,aM a0.2.2.2.2.2]) λx0=>L31 (ai x0) λx1=>sh (iQ n x1) λx2=>if !decide (x2=0) then AI ((ofBytes []),3) else if decide (a1<0) then AI ((ofBytes []),2) else L15 ((ai x0).plus 4) λx3=>if decide ((↑x3.len:Int)<=a1) then AI ((ofBytes []),2) else CG n a1 (ai x0)
def af9 (i:Nat):Option (List (Nat×η)):=Κ i 5 (Ω [0,2,4,8,10,1,3,5,6,7,9,11,12,13,14,15,16]) none
abbrev aga:List (fT (ζ×Int)):=[⟨[0,1,1,1],[.code [1,1,1,1]],[(1,aq),(2,aG)],υ2 (CG n)⟩]
abbrev abF:List aS:=⟨13,[.agg [.int .i64,.str,.sl,.int .i64,.sl,.sl],aq],[oz,aq],υ2 (IY n)⟩::af8 n
theorem agb:aC TZp (abF n):=.cons (aY f13 (af8 n) (dr:=af9) (js:=aga n) (hT:=⟨.nil,aiE n,.nil,.nil,(.cc .nil)⟩)) (aiE n)
def ya (G:τ55)(n:Nat):τ55:=λa0 a1 a2=>if decide (a2<(↑a0.len:Int)) then L12 a0 a2 1 λx0=>L12 a1 a2 1 λx1=>L10 x0 λx2=>L10 x1 λx3=>if !decide (x2=x3) then AI (Sum.inr false) else G a0 a1 (i64.wrap (a2+1)) else AI (Sum.inl ())
def oi:=lp0 ya
def vU (a0 a1:Sl):M Bool:=if !decide ((↑a0.len:Int)=(↑a1.len:Int)) then AI false else sh (oi n a0 a1 0) (bu (λx0=>AI true) (λx0=>AI x0))
abbrev Lo:L2:=⟨[0,1,0,1,1],[(0,bU),(1,bU),(5,aq)],[],[(4,hS)],[4,5]++List.range' 11 15,0,.ret,λn=>υ3 (oi n)⟩
def Yf (i:Nat):Option (List (Nat×η)):=Κ i 6 (Ω [0,1,2,4,5,6,3,7,8]) none
theorem U9:iJ TZp f28 (Lo.e n) Lo.ws:=L2.ok f28 Lo n abF (dr:=Yf) (hT:=λm _=>.m1 (agb m))
abbrev agc:List aS:=⟨28,[bU,bU],[hS],υ2 (vU n)⟩::abF n
theorem aiF:aC TZp (agc n):=.cons (aY f28 (abF n) (ll:=[Lo.e n]) (dr:=Yf) (hT:=⟨.nil,agb n,.nil,(.cc (U9 n) .nil),.nil⟩)) (agb n)
def vV (a0 a1:Sl):M Bool:=sh (vU n a0 a1) λx0=>AI x0
abbrev Yg:List aS:=⟨14,[bU,bU],[hS],υ2 (vV n)⟩::agc n
theorem abG:aC TZp (Yg n):=.cons (aY f14 (agc n) (hT:=.m1 (aiF n))) (aiF n)
def vp:M Bool:=sh (tn n) λx0=>sh (aJ none fI [vi 0,.string (ofBytes []),bF,vi 0,bF,bF]) λx1=>sh (bD (ai x1) [vi x0.1,.string x0.2.1,aM x0.2.2.1,vi x0.2.2.2.1,aM x0.2.2.2.2.1,aM x0.2.2.2.2.2]) λx2=>L31 (ai x1) λx3=>sh (Se n x3 4) λx4=>L31 (ai x1) λx5=>sh (sE n x5 2) λx6=>L31 (ai x1) λx7=>sh (IY n x7 1) λx8=>L31 (ai x1) λx9=>sh (iQ n x9) λx10=>if decide (x10=0) then if x4.2 then if decide (x4.1=2) then if decide (x6.2=0) then if decide ((↑x6.1.len:Int)=1) then L12 x6.1 0 2 λx11=>L29 x11 λx12=>if decide (x12.1=1)&&(mY x12.2 (ofBytes [])&&true) then if decide (x8.2=0) then if mY x8.1 (ofBytes [55]) then L31 (ai x1) λx13=>sh (nq n x13 0) λx14=>sh (aJ none ar [vi 1,vi 2]) λx15=>sh (vV n x14 { a:=some (ai x15),len:=2,cap:=3 }) λx16=>AI x16 else AI false else AI false else AI false else AI false else AI false else AI false else AI false else AI false
abbrev aly:aS:=⟨4,[],[hS],λ_=>vp n⟩
theorem yV:aF TZp (aly n):=aY f4 (Yg n) (hT:=.m1 (abG n))
def kX (G:Addr->Int->Int->Int->M ((Int×Int)⊕Bool))(n:Nat)(a0:Addr)(a1 a2 a3:Int)(a4:Addr):M ((Int×Int)⊕Bool):=L15 (a4.plus 3) λx0=>L15 (a4.plus 4) λx1=>L11 (a4.plus 1) λx2=>G a0 (i64.wrap (a1+i64.wrap ((↑x0.len:Int)+(↑x1.len:Int)))) (i64.wrap (a2+(↑(ByteArray.size x2):Int))) (i64.wrap (a3+1))
def nK (G:τ56)(n:Nat):τ56:=λa0 a1 a2 a3=>L15 (a0.plus 0) λx0=>if decide (a3<(↑x0.len:Int)) then L15 (a0.plus 0) λx1=>L12 x1 a3 5 λx2=>L16 x2 λx3=>L17 λx4=>sh (bD (ai x4) [vi x3.1,.string x3.2.1,.bool x3.2.2.1,aM x3.2.2.2.1,aM x3.2.2.2.2]) λx5=>L11 ((ai x4).plus 1) λx6=>if decide (100<(↑(ByteArray.size x6):Int)) then AI (Sum.inr false) else L15 ((ai x4).plus 3) λx7=>if decide (80<(↑x7.len:Int)) then AI (Sum.inr false) else L15 ((ai x4).plus 4) λx8=>if decide (80<(↑x8.len:Int)) then AI (Sum.inr false) else kX G n a0 a1 a2 a3 (ai x4) else AI (Sum.inl (a1,a2))
def fv:=lp0 nK
theorem wH:fv (n+1)=nK (fv n) n:=rfl
def yb:=kX (fv n) n
def oP (a0:Sl×Int):M Bool:=sh (aJ none ao [aM a0.1,vi a0.2]) λx0=>L15 ((ai x0).plus 0) λx1=>if decide (40<(↑x1.len:Int)) then AI false else sh (fv n (ai x0) 0 0 0) (bu (λx2=>if decide (x2.1<=240) then AI (decide (x2.2<=300)) else AI false) (λx2=>AI x2))
abbrev Lq:L2:=⟨[0,1,0,1,1,1],[(1,aG),(3,aq),(4,aq),(5,aq)],[(3,aq),(4,aq)],[(2,hS)],List.range' 2 5++List.range' 11 42,0,.ret,λn=>υ4 (fv n)⟩
abbrev Va:List (fT ((Int×Int)⊕Bool)):=[⟨[0,1,1,0,0,1,0,0,1,0,1,1,1],[.code [1,1,1,0,0,1,0,0,1,0,1,1,1],.av 1,.code [1,1,0,0,1,0,1,1,1]],[(1,aG),(3,aq),(4,aq),(5,aq),(6,aG)],υ5 (yb n)⟩]
theorem Vb:iJ TZp f15 (Lq.e n) Lq.ws:=L2.ok f15 Lq n Yg (jt:=Va) (hT:=λm _=>⟨.nil,abG m,.nil,.nil,(.cc .nil)⟩)
abbrev Yh:List aS:=⟨15,[.agg [.sl,.int .i64]],[hS],λx=>oP n x⟩::Yg n
theorem abH:aC TZp (Yh n):=.cons (aY f15 (Yg n) (ll:=[Lq.e n]) (hT:=⟨.nil,abG n,.nil,(.cc (Vb n) .nil),.nil⟩)) (abG n)
def mb (a0:Int×ζ×Sl×Int×Sl×Sl):M Bool:=sh (aJ none fI [vi a0.1,.string a0.2.1,aM a0.2.2.1,vi a0.2.2.2.1,aM a0.2.2.2.2.1,aM a0.2.2.2.2.2]) λx0=>L28 ((ai x0).plus 2) λx1=>sh (oP n x1) λx2=>if x2 then L11 ((ai x0).plus 1) λx3=>if decide ((↑(ByteArray.size x3):Int)<=2000) then L15 ((ai x0).plus 4) λx4=>if decide ((↑x4.len:Int)<=60) then L15 ((ai x0).plus 5) λx5=>AI (decide ((↑x5.len:Int)<=40)) else AI false else AI false else AI false
abbrev alz:aS:=⟨5,[.agg [.int .i64,.str,.sl,.int .i64,.sl,.sl]],[hS],λx=>mb n x⟩
theorem AU:aF TZp (alz n):=aY f5 (Yh n) (hT:=.m1 (abH n))
def zQ (G:τ57)(n:Nat):τ57:=λa0 a1 a2 a3=>if decide (a3<a2) then L12 a1 a3 9 λx0=>L13 x0 λx1=>L14 λx2=>sh (bD (ai x2) (V10 x1)) λx3=>L10 ((ai x2).plus 0) λx4=>if decide (x4=a0) then L19 ((ai x2).plus 7) λx5=>if !x5 then AI (Sum.inr a3) else G a0 a1 a2 (i64.wrap (a3+1)) else G a0 a1 a2 (i64.wrap (a3+1)) else AI (Sum.inl ())
def pW:=lp0 zQ
def yz (a0:Int×ζ×Sl×Int×Sl×Sl)(a1:Int):M Int:=sh (aJ none fI [vi a0.1,.string a0.2.1,aM a0.2.2.1,vi a0.2.2.2.1,aM a0.2.2.2.2.1,aM a0.2.2.2.2.2]) λx0=>L15 ((ai x0).plus 4) λx1=>sh (pW n a1 x1 (↑x1.len:Int) 0) (bu (λx2=>AI (-1)) (λx2=>AI x2))
abbrev Ls:L2:=⟨[0,1,0,1],[(1,aq),(8,bU),(9,aq),(10,aq)],[],[(4,aq)],[4,5,6]++List.range' 10 16,0,.ret,λn=>υ4 (pW n)⟩
theorem Vc:iJ TZp f26 (Ls.e n) Ls.ws:=L2.ok f26 Ls n Yh (hT:=λm _=>.m1 (abH m))
abbrev Ve:List aS:=⟨26,[.agg [.int .i64,.str,.sl,.int .i64,.sl,.sl],aq],[aq],υ2 (yz n)⟩::Yh n
theorem Yi:aC TZp (Ve n):=.cons (aY f26 (Yh n) (ll:=[Ls.e n]) (hT:=⟨.nil,abH n,.nil,(.cc (Vc n) .nil),.nil⟩)) (abH n)
def vq (G:τ58)(n:Nat):τ58:=λa0 a1 a2 a3 a4 a5 a6 a7 a8 a9 a10=>if decide (a10<a9) then L12 a8 a10 1 λx0=>L10 x0 λx1=>L15 (a0.plus 4) λx2=>L12 x2 x1 9 λx3=>L10 (x3.plus 2) λx4=>L11 (a2.plus 1) λx5=>if mY x5 (ofBytes []) then L10 (a3.plus 0) λx6=>if !decide (x6=10) then L10 (a2.plus 0) λx7=>if decide (x4=x7) then G a0 a1 a2 a3 x1 a5 a6 a7 a8 a9 (i64.wrap (a10+1)) else L11 (a2.plus 1) λx8=>if !mY x8 (ofBytes []) then L10 (a3.plus 0) λx9=>if decide (x9=10) then L28 (a0.plus 2) λx10=>L15 (a3.plus 3) λx11=>L12 x11 x4 1 λx12=>L10 x12 λx13=>L11 (a2.plus 1) λx14=>sh (oo [some (a2.plus 1)] (pV n x10 x13)) λx15=>if mY x15 x14 then G a0 a1 a2 a3 x1 a5 a6 a7 a8 a9 (i64.wrap (a10+1)) else G a0 a1 a2 a3 a4 a5 a6 a7 a8 a9 (i64.wrap (a10+1)) else G a0 a1 a2 a3 a4 a5 a6 a7 a8 a9 (i64.wrap (a10+1)) else G a0 a1 a2 a3 a4 a5 a6 a7 a8 a9 (i64.wrap (a10+1)) else L11 (a2.plus 1) λx7=>if !mY x7 (ofBytes []) then L10 (a3.plus 0) λx8=>if decide (x8=10) then L28 (a0.plus 2) λx9=>L15 (a3.plus 3) λx10=>L12 x10 x4 1 λx11=>L10 x11 λx12=>L11 (a2.plus 1) λx13=>sh (oo [some (a2.plus 1)] (pV n x9 x12)) λx14=>if mY x14 x13 then G a0 a1 a2 a3 x1 a5 a6 a7 a8 a9 (i64.wrap (a10+1)) else G a0 a1 a2 a3 a4 a5 a6 a7 a8 a9 (i64.wrap (a10+1)) else G a0 a1 a2 a3 a4 a5 a6 a7 a8 a9 (i64.wrap (a10+1)) else G a0 a1 a2 a3 a4 a5 a6 a7 a8 a9 (i64.wrap (a10+1)) else L11 (a2.plus 1) λx6=>if !mY x6 (ofBytes []) then L10 (a3.plus 0) λx7=>if decide (x7=10) then L28 (a0.plus 2) λx8=>L15 (a3.plus 3) λx9=>L12 x9 x4 1 λx10=>L10 x10 λx11=>L11 (a2.plus 1) λx12=>sh (oo [some (a2.plus 1)] (pV n x8 x11)) λx13=>if mY x13 x12 then G a0 a1 a2 a3 x1 a5 a6 a7 a8 a9 (i64.wrap (a10+1)) else G a0 a1 a2 a3 a4 a5 a6 a7 a8 a9 (i64.wrap (a10+1)) else G a0 a1 a2 a3 a4 a5 a6 a7 a8 a9 (i64.wrap (a10+1)) else G a0 a1 a2 a3 a4 a5 a6 a7 a8 a9 (i64.wrap (a10+1)) else AI a4
def mO:=lp0 vq
theorem CH:mO (n+1)=vq (mO n) n:=rfl
def nP (G:Addr->μ->Int->Sl->Int->Int->M (Int⊕(Int×Int)))(n:Nat)(a0:Addr)(a1:μ)(a2:Int)(a3:Addr)(a4:Sl)(a5 a6:Int):M (Int⊕(Int×Int)):=sh (eU 13) λx0=>L15 ((a0.plus 2).plus 0) λx1=>L15 (a0.plus 4) λx2=>L12 x2 a2 9 λx3=>L10 (x3.plus 0) λx4=>L12 x1 x4 5 λx5=>L16 x5 λx6=>sh (aJ (some (x0+11)) aW [vi 0,.string (ofBytes []),.bool false,bF,bF]) λx7=>sh (bD (ai x7) [vi x6.1,.string x6.2.1,.bool x6.2.2.1,aM x6.2.2.2.1,aM x6.2.2.2.2]) λx8=>sh (rK ar (Ty.one .sl) uV a1 (vi a2)) λ(x9:Bool×Sl)=>sh (mO n a0 a1 a3 (ai x7) (-1) a4 a5 a6 x9.2 (↑x9.2.len:Int) 0) λx10=>if decide (x10<0) then AI (Sum.inr (0,9)) else G a0 a1 x10 a4 a5 (i64.wrap (a6+1))
def rf (G:τ59)(n:Nat):τ59:=λa0 a1 a2 a3 a4 a5=>if decide (a5<a4) then L12 a3 a5 2 λx0=>L29 x0 λx1=>sh (aJ none aA [vi 0,.string (ofBytes [])]) λx2=>sh (bD (ai x2) [vi x1.1,.string x1.2]) λx3=>L15 (a0.plus 4) λx4=>L12 x4 a2 9 λx5=>L19 (x5.plus 7) λx6=>if x6 then L31 a0 λx7=>L15 (a0.plus 4) λx8=>L12 x8 a2 9 λx9=>L10 (x9.plus 0) λx10=>sh (yz n x7 x10) λx11=>nP G n a0 a1 x11 (ai x2) a3 a4 a5 else nP G n a0 a1 a2 (ai x2) a3 a4 a5 else AI (Sum.inl a2)
def mP:=lp0 rf
theorem vW:mP (n+1)=rf (mP n) n:=rfl
def E7:=nP (mP n) n
def xa (a0:Int×ζ×Sl×Int×Sl×Sl)(a1:Sl):M (Int×Int):=sh (aJ none fI [vi a0.1,.string a0.2.1,aM a0.2.2.1,vi a0.2.2.2.1,aM a0.2.2.2.2.1,aM a0.2.2.2.2.2]) λx0=>L31 (ai x0) λx1=>sh (iQ n x1) λx2=>if !decide (x2=0) then AI (0,3) else L31 (ai x0) λx3=>sh (kO n x3) λx4=>sh (mP n (ai x0) x4 0 a1 (↑a1.len:Int) 0) (bu (λx5=>AI (x5,0)) (λx5=>AI x5))
abbrev alA:aS:=⟨8,[.agg [.int .i64,.str,.sl,.int .i64,.sl,.sl],bU],[aq,aq],υ2 (xa n)⟩
abbrev Sf:L2:=⟨[0,1,0,1,1,1,1],[(2,aG),(6,OX),(7,aq),(20,bU),(21,aq),(22,aq)],[(7,aq)],[(4,aq),(5,aq)],[4,5,7,9,10,11,13,14]++List.range' 22 86,0,.ret,λn=>υ6 (mP n)⟩
abbrev Si:L1:=⟨[0,1,0,1,1,1,1,0,0,1,1,0,0,1,0,1,1,1,1],[(2,aG),(6,OX),(9,aG),(10,aG),(11,aq),(20,bU),(21,aq),(22,aq),(53,bU),(54,aq),(55,aq)],[(11,aq)],[11,13,14]++List.range' 55 49,2,λn=>υ11 (mO n)⟩
def Yj (i:Nat):Option (List (Nat×η)):=Κ i 9 (Ω [1,3,0,2,4,5,6,7,8]) (Κ i 10 (Ω [0,1,3,5,2,4,6,7,8,9,10,11,12]) (Κ i 16 (Ω [0,1,2,3,4,5,6,7,8,9,10,11,12,13,14,15,16,17,18,19,20,21,22,23,24,26,28,32,25,27,29,30,33]++[(31,[33])]++Ω [34,35,36]) none))
abbrev Yk:List (fT (Int⊕(Int×Int))):=[⟨[0,1,1,0,0,1,1,0,0,1,0,1,1,1,1],[.code [1,1,1,0,0,1,1,0,0,1,0,1,1,1,1],.av 1,.code [1,1,1,0,0,1,0,1,1,1,1]],[(2,aG),(6,OX),(7,aq),(9,aG),(20,bU),(21,aq),(22,aq)],υ7 (E7 n)⟩]
theorem Yl:iJ TZp f8 (Si.e n) Si.ws:=L1.ok f8 Si n Ve (dr:=Yj) (hT:=λm _=>.m1 (Yi m))
theorem Ym:iJ TZp f8 (Sf.e n) Sf.ws:=L2.ok f8 Sf n Ve (lt:=λn=>[Si.e n]) (dr:=Yj) (jt:=Yk) (hT:=λm _=>⟨.nil,Yi m,.nil,(.cc (Yl m) .nil),(.cc .nil)⟩)
theorem Lt:aF TZp (alA n):=aY f8 (Ve n) (ll:=[Sf.e n]) (dr:=Yj) (hT:=⟨.nil,Yi n,.nil,(.cc (Ym n) .nil),.nil⟩)
def jP (G:τ55)(n:Nat):τ55:=λa0 a1 a2=>if decide (a2<(↑a0.len:Int)) then L12 a0 a2 2 λx0=>L12 a1 a2 2 λx1=>L29 x0 λx2=>L29 x1 λx3=>if !(decide (x2.1=x3.1)&&(mY x2.2 x3.2&&true)) then AI (Sum.inr false) else G a0 a1 (i64.wrap (a2+1)) else AI (Sum.inl ())
def dV:=lp0 jP
theorem tq:dV (n+1)=jP (dV n) n:=rfl
def gT (a0 a1:Sl):M Bool:=if !decide ((↑a0.len:Int)=(↑a1.len:Int)) then AI false else sh (dV n a0 a1 0) (bu (λx0=>AI true) (λx0=>AI x0))
abbrev aiG:aS:=⟨10,[bU,bU],[hS],υ2 (gT n)⟩
abbrev Lu:L2:=⟨[0,1,0,1,1],[(0,bU),(1,bU),(5,aq)],[],[(4,hS)],[4,5]++List.range' 11 15,0,.ret,λn=>υ3 (dV n)⟩
def Yn (i:Nat):Option (List (Nat×η)):=Κ i 6 (Ω [0,1,2,4,5,6,3,7,8]) none
theorem Vf:iJ TZp f10 (Lu.e n) Lu.ws:=L2.ok f10 Lu n Ve (dr:=Yn) (hT:=λm _=>.m1 (Yi m))
theorem wI:aF TZp (aiG n):=aY f10 (Ve n) (ll:=[Lu.e n]) (dr:=Yn) (hT:=⟨.nil,Yi n,.nil,(.cc (Vf n) .nil),.nil⟩)
end Go.Sh
