
import Derived.Test.YtengdffgmpghgaaGreatDoorSh0
set_option linter.all false
set_option maxRecDepth 100000
set_option maxHeartbeats 0
namespace Go.Sh
open Go Go.Ago Go.Proofs Go.IntKind Go.Proofs.Tryz
variable (n:Nat)
def mD (a0:Addr):M (ζ×Int):=L25 a0 λx0=>sh (gS n x0) λx1=>if !x1 then AI ((ofBytes []),13) else L25 a0 λx2=>L10 (a0.plus 9) λx3=>sh (oo [some (a0.plus 9)] (jh n x2)) λx4=>sh (nO n x4 x3) λx5=>AI x5
def mV (a0:ζ):M (ζ×Int):=sh (mB n a0) λx0=>L26 λx1=>sh (bD (ai x1) [vi x0.1.1,vi x0.1.2.1,vi x0.1.2.2.1,vi x0.1.2.2.2.1,vi x0.1.2.2.2.2.1,vi x0.1.2.2.2.2.2.1,vi x0.1.2.2.2.2.2.2.1,vi x0.1.2.2.2.2.2.2.2.1,vi x0.1.2.2.2.2.2.2.2.2.1,vi x0.1.2.2.2.2.2.2.2.2.2.1,.int IntKind.u8 x0.1.2.2.2.2.2.2.2.2.2.2]) λx2=>if !x0.2 then AI ((ofBytes []),3) else sh (ak (.int IntKind.u8) ((ai x1).plus 10)) λ(x3:Int)=>if decide (x3=0) then AI ((ofBytes []),3) else mD n (ai x1)
def afL (i:Nat):Option (List (Nat×η)):=Κ i 6 (Ω [2,0,3]++[(1,[3])]++Ω [4,5,6,7,8]) none
abbrev afM:List (fT (ζ×Int)):=[⟨[0,0,1,1,1],[.code [1,0,1,1,1],.code [1,1,1,1]],[(4,aG)],λx=>mD n x⟩]
abbrev C51:List aS:=⟨62,[oz],[oz,aq],λx=>mV n x⟩::C50 n
theorem K51:aC TZp (C51 n):=.cons (aY f62 (C50 n) (dr:=afL) (js:=afM n) (hT:=⟨.nil,K50 n,.nil,.nil,(.cc .nil)⟩)) (K50 n)
def sS (a0:ζ):M (ζ×Int):=sh (mB n a0) λx0=>L26 λx1=>sh (bD (ai x1) [vi x0.1.1,vi x0.1.2.1,vi x0.1.2.2.1,vi x0.1.2.2.2.1,vi x0.1.2.2.2.2.1,vi x0.1.2.2.2.2.2.1,vi x0.1.2.2.2.2.2.2.1,vi x0.1.2.2.2.2.2.2.2.1,vi x0.1.2.2.2.2.2.2.2.2.1,vi x0.1.2.2.2.2.2.2.2.2.2.1,.int IntKind.u8 x0.1.2.2.2.2.2.2.2.2.2.2]) λx2=>if !x0.2 then AI ((ofBytes []),3) else sh (ak (.int IntKind.u8) ((ai x1).plus 10)) λ(x3:Int)=>if !decide (x3=0) then AI ((ofBytes []),3) else L25 (ai x1) λx4=>sh (gS n x4) λx5=>if !x5 then AI ((ofBytes []),13) else L25 (ai x1) λx6=>sh (iZ n x6) λx7=>AI (x7,0)
abbrev C52:List aS:=⟨79,[oz],[oz,aq],λx=>sS n x⟩::C51 n
theorem K52:aC TZp (C52 n):=.cons (aY f79 (C51 n) (hT:=.m1 (K51 n))) (K51 n)
def pb (a0:ζ):M Int:=sh (sS n a0) λx0=>if !decide (x0.2=0) then AI 0 else if !mY x0.1 a0 then AI 0 else sh (mB n a0) λx1=>L26 λx2=>sh (bD (ai x2) [vi x1.1.1,vi x1.1.2.1,vi x1.1.2.2.1,vi x1.1.2.2.2.1,vi x1.1.2.2.2.2.1,vi x1.1.2.2.2.2.2.1,vi x1.1.2.2.2.2.2.2.1,vi x1.1.2.2.2.2.2.2.2.1,vi x1.1.2.2.2.2.2.2.2.2.1,vi x1.1.2.2.2.2.2.2.2.2.2.1,.int IntKind.u8 x1.1.2.2.2.2.2.2.2.2.2.2]) λx3=>L10 ((ai x2).plus 0) λx4=>AI x4
abbrev C53:List aS:=⟨63,[oz],[aq],λx=>pb n x⟩::C52 n
theorem K53:aC TZp (C53 n):=.cons (aY f63 (C52 n) (hT:=.m1 (K52 n))) (K52 n)
def uv (a0:Int)(a1:ζ):M Bool:=if decide (a0=0) then AI (mY a1 (ofBytes [])) else if decide (a0=1) then if mY a1 (ofBytes [116,114,117,101]) then AI true else AI (mY a1 (ofBytes [102,97,108,115,101])) else if decide (a0=2) then sh (o9 n a1) λx0=>AI x0 else if decide (a0=3) then sh (sQ n a1) λx0=>AI x0 else if decide (a0=4) then sh (qD n a1) λx0=>AI x0 else if decide (a0=5) then sh (px n a1) λx0=>AI (decide (x0.2=0)) else if decide (a0=6) then AI true else if decide (a0=7) then sh (mV n a1) λx0=>if decide (x0.2=0) then AI (mY x0.1 a1) else AI false else if decide (a0=8) then sh (pb n a1) λx0=>AI !decide (x0=0) else AI false
abbrev C54:List aS:=⟨49,[aq,oz],[hS],υ2 (uv n)⟩::C53 n
theorem K54:aC TZp (C54 n):=.cons (aY f49 (C53 n) (hT:=.m1 (K53 n))) (K53 n)
def xQ (a0:Int×ζ×Bool×Sl×Sl):M Bool:=sh (aJ none aW [vi a0.1,.string a0.2.1,.bool a0.2.2.1,aM a0.2.2.2.1,aM a0.2.2.2.2]) λx0=>L10 ((ai x0).plus 0) λx1=>if decide (x1=9) then L11 ((ai x0).plus 1) λx2=>if mY x2 (ofBytes []) then L19 ((ai x0).plus 2) λx3=>if !x3 then L15 ((ai x0).plus 3) λx4=>AI (decide ((↑x4.len:Int)=0)) else AI false else AI false else if decide (x1=10) then L11 ((ai x0).plus 1) λx2=>if mY x2 (ofBytes []) then L15 ((ai x0).plus 3) λx3=>L15 ((ai x0).plus 4) λx4=>AI (decide ((↑x3.len:Int)=(↑x4.len:Int))) else AI false else if decide (x1=11) then L11 ((ai x0).plus 1) λx2=>sh (xI n x2) λx3=>if x3 then L19 ((ai x0).plus 2) λx4=>if !x4 then L15 ((ai x0).plus 3) λx5=>if decide ((↑x5.len:Int)=0) then L15 ((ai x0).plus 4) λx6=>AI (decide ((↑x6.len:Int)=1)) else AI false else AI false else AI false else L19 ((ai x0).plus 2) λx2=>if !x2 then L15 ((ai x0).plus 3) λx3=>if decide ((↑x3.len:Int)=0) then L15 ((ai x0).plus 4) λx4=>if decide ((↑x4.len:Int)=0) then L10 ((ai x0).plus 0) λx5=>L11 ((ai x0).plus 1) λx6=>sh (uv n x5 x6) λx7=>AI x7 else AI false else AI false else AI false
abbrev C55:List aS:=⟨35,[.agg [.int .i64,.str,.bool,.sl,.sl]],[hS],λx=>xQ n x⟩::C54 n
theorem K55:aC TZp (C55 n):=.cons (aY f35 (C54 n) (hT:=.m1 (K54 n))) (K54 n)
def qE (G:τ19)(n:Nat):τ19:=λa0 a1 a2 a3 a4 a5 a6 a7=>if decide (a7<a6) then L12 a5 a7 1 λx0=>L10 x0 λx1=>L12 a0 x1 1 λx2=>L10 x2 λx3=>L12 a0 x1 1 λx4=>sh (bD x4 [vi (i64.wrap (x3+1))]) λx5=>G a0 a1 a2 a3 a4 a5 a6 (i64.wrap (a7+1)) else AI ()
def j8:=lp0 qE
theorem zD:j8 (n+1)=qE (j8 n) n:=rfl
def qF (G:τ20)(n:Nat):τ20:=λa0 a1 a2 a3 a4 a5 a6=>if decide (a6<a5) then L12 a4 a6 1 λx0=>L10 x0 λx1=>L12 a0 x1 1 λx2=>L10 x2 λx3=>L12 a0 x1 1 λx4=>sh (bD x4 [vi (i64.wrap (x3+1))]) λx5=>G a0 a1 a2 a3 a4 a5 (i64.wrap (a6+1)) else AI ()
def j9:=lp0 qF
theorem zE:j9 (n+1)=qF (j9 n) n:=rfl
def qG (G:τ10)(n:Nat):τ10:=λa0 a1 a2 a3=>if decide (a3<a2) then L12 a1 a3 5 λx0=>L16 x0 λx1=>L17 λx2=>sh (bD (ai x2) [vi x1.1,.string x1.2.1,.bool x1.2.2.1,aM x1.2.2.2.1,aM x1.2.2.2.2]) λx3=>L15 ((ai x2).plus 3) λx4=>sh (j8 n a0 (ai x2) a1 a2 a3 x4 (↑x4.len:Int) 0) λx5=>L15 ((ai x2).plus 4) λx6=>sh (j9 n a0 a1 a2 a3 x6 (↑x6.len:Int) 0) λx7=>G a0 a1 a2 (i64.wrap (a3+1)) else AI ()
def kc:=lp0 qG
theorem zF:kc (n+1)=qG (kc n) n:=rfl
def uw (a0:Sl×Int):M Sl:=sh (aJ none ao [aM a0.1,vi a0.2]) λx0=>L15 ((ai x0).plus 0) λx1=>sh (vG none ar [vi 0] (↑x1.len:Int) (↑x1.len:Int)) λx2=>L10 ((ai x0).plus 1) λx3=>L12 x2 x3 1 λx4=>L10 x4 λx5=>L12 x2 x3 1 λx6=>sh (bD x6 [vi (i64.wrap (x5+1))]) λx7=>L15 ((ai x0).plus 0) λx8=>sh (kc n x2 x8 (↑x8.len:Int) 0) λx9=>AI x2
abbrev J2:L1:=⟨[0,1,0,1,1,1],[(3,bU),(22,bU),(23,aq),(24,aq)],[],[5,7,9]++List.range' 24 33,0,λn=>υ4 (kc n)⟩
abbrev J3:L1:=⟨[0,1,0,1,0,0,1,1,0,0,1,0,1,1,1],[(3,bU),(5,aG),(22,bU),(23,aq),(24,aq),(29,bU),(30,aq),(31,aq)],[],[7]++List.range' 31 11,2,λn=>υ8 (j8 n)⟩
abbrev J4:L1:=⟨[0,1,1,1,0,0,1,1,0,0,1,0,1,1,1],[(3,bU),(22,bU),(23,aq),(24,aq),(43,bU),(44,aq),(45,aq)],[],[9]++List.range' 45 11,4,λn=>υ7 (j9 n)⟩
theorem Ug:iJ TZp f36 (J3.e n) J3.ws:=L1.ok f36 J3 n C55 (hT:=λm _=>.m1 (K55 m))
theorem Uh:iJ TZp f36 (J4.e n) J4.ws:=L1.ok f36 J4 n C55 (hT:=λm _=>.m1 (K55 m))
theorem Ui:iJ TZp f36 (J2.e n) J2.ws:=L1.ok f36 J2 n C55 (lt:=λn=>[J3.e n,J4.e n]) (hT:=λm _=>⟨.nil,K55 m,.nil,(.cc (Ug m) (.cc (Uh m) .nil)),.nil⟩)
abbrev C56:List aS:=⟨36,[.agg [.sl,.int .i64]],[bU],λx=>uw n x⟩::C55 n
theorem K56:aC TZp (C56 n):=.cons (aY f36 (C55 n) (ll:=[J2.e n]) (hT:=⟨.nil,K55 n,.nil,(.cc (Ui n) .nil),.nil⟩)) (K55 n)
def qH (G:τ21)(n:Nat):τ21:=λa0 a1 a2 a3 a4 a5 a6 a7=>if decide (a7<a6) then L12 a5 a7 1 λx0=>L10 x0 λx1=>L28 a0 λx2=>sh (nf n x2 x1 a1) λx3=>G a0 a1 a2 a3 a4 a5 a6 (i64.wrap (a7+1)) else AI ()
def ke:=lp0 qH
theorem zG:ke (n+1)=qH (ke n) n:=rfl
def qI (G:τ22)(n:Nat):τ22:=λa0 a1 a2 a3 a4=>if decide (a4<a3) then L12 a2 a4 5 λx0=>L16 x0 λx1=>L17 λx2=>sh (bD (ai x2) [vi x1.1,.string x1.2.1,.bool x1.2.2.1,aM x1.2.2.2.1,aM x1.2.2.2.2]) λx3=>L15 ((ai x2).plus 3) λx4=>sh (ke n a0 a1 a2 a3 a4 x4 (↑x4.len:Int) 0) λx5=>G a0 a1 a2 a3 (i64.wrap (a4+1)) else AI ()
def kh:=lp0 qI
theorem zH:kh (n+1)=qI (kh n) n:=rfl
def ux (a0:Sl×Int):M Sl:=sh (aJ none ao [aM a0.1,vi a0.2]) λx0=>L15 ((ai x0).plus 0) λx1=>sh (vG none nV [.bool false] (↑x1.len:Int) (↑x1.len:Int)) λx2=>L15 ((ai x0).plus 0) λx3=>sh (kh n (ai x0) x2 x3 (↑x3.len:Int) 0) λx4=>AI x2
abbrev J5:L1:=⟨[0,1,0,1,1],[(1,aG),(3,bU),(13,bU),(14,aq),(15,aq)],[],[5,7]++List.range' 15 17,0,λn=>υ5 (kh n)⟩
abbrev J6:L1:=⟨[0,1,1,0,0,1,1,0,0,1,0,1,1],[(1,aG),(3,bU),(13,bU),(14,aq),(15,aq),(20,bU),(21,aq),(22,aq)],[],[7]++List.range' 22 9,2,λn=>υ8 (ke n)⟩
theorem Uj:iJ TZp f37 (J6.e n) J6.ws:=L1.ok f37 J6 n C56 (hT:=λm _=>.m1 (K56 m))
theorem Uk:iJ TZp f37 (J5.e n) J5.ws:=L1.ok f37 J5 n C56 (lt:=λn=>[J6.e n]) (hT:=λm _=>⟨.nil,K56 m,.nil,(.cc (Uj m) .nil),.nil⟩)
abbrev C57:List aS:=⟨37,[.agg [.sl,.int .i64]],[bU],λx=>ux n x⟩::C56 n
theorem K57:aC TZp (C57 n):=.cons (aY f37 (C56 n) (ll:=[J5.e n]) (hT:=⟨.nil,K56 n,.nil,(.cc (Uk n) .nil),.nil⟩)) (K56 n)
structure bE where
 hO:Addr->Addr->Addr->Int->Int->Bool->Sl->Int->Int->Sl->Int->Int->M Bool
 kQ:Addr->Addr->Addr->Sl->Int->Int->M (Unit⊕Bool)
 gm:Addr->Addr->Addr->Int->Int->M (Unit⊕Bool)
 iP:(Sl×Int)->Int->Int->M Bool
def tD (G:bE)(n:Nat)(a0 a1 a2:Addr)(a3 a4:Int)(a5:Bool)(a6:Sl)(a7 a8:Int)(a9:Sl)(a10 a11:Int):M Bool:=if decide (a11<a10) then L12 a9 a11 1 λx0=>L10 x0 λx1=>if a5 then G.hO a0 a1 a2 a3 a4 true a6 a7 a8 a9 a10 (i64.wrap (a11+1)) else L28 a0 λx2=>sh (G.iP x2 a4 x1) λx3=>if x3 then L28 a0 λx4=>L15 (a1.plus 4) λx5=>L12 x5 a3 1 λx6=>L10 x6 λx7=>L15 (a2.plus 4) λx8=>L12 x8 a11 1 λx9=>L10 x9 λx10=>sh (G.iP x4 x7 x10) λx11=>G.hO a0 a1 a2 a3 a4 x11 a6 a7 a8 a9 a10 (i64.wrap (a11+1)) else G.hO a0 a1 a2 a3 a4 false a6 a7 a8 a9 a10 (i64.wrap (a11+1)) else AI a5
def tE (G:bE)(n:Nat)(a0 a1 a2:Addr)(a3:Sl)(a4 a5:Int):M (Unit⊕Bool):=if decide (a5<a4) then L12 a3 a5 1 λx0=>L10 x0 λx1=>L15 (a2.plus 3) λx2=>sh (G.hO a0 a1 a2 a5 x1 false a3 a4 a5 x2 (↑x2.len:Int) 0) λx3=>if !x3 then AI (Sum.inr false) else G.kQ a0 a1 a2 a3 a4 (i64.wrap (a5+1)) else AI (Sum.inl ())
def tF (G:bE)(n:Nat)(a0 a1 a2:Addr)(a3 a4:Int):M (Unit⊕Bool):=if decide (a4<a3) then L10 (a1.plus 0) λx0=>if decide (x0=10) then L28 a0 λx1=>L15 (a1.plus 3) λx2=>L12 x2 a4 1 λx3=>L10 x3 λx4=>L15 (a2.plus 3) λx5=>L12 x5 a4 1 λx6=>L10 x6 λx7=>sh (G.iP x1 x4 x7) λx8=>if !x8 then AI (Sum.inr false) else L28 a0 λx9=>L15 (a1.plus 4) λx10=>L12 x10 a4 1 λx11=>L10 x11 λx12=>L15 (a2.plus 4) λx13=>L12 x13 a4 1 λx14=>L10 x14 λx15=>sh (G.iP x9 x12 x15) λx16=>if !x16 then AI (Sum.inr false) else G.gm a0 a1 a2 a3 (i64.wrap (a4+1)) else L28 a0 λx1=>L15 (a1.plus 4) λx2=>L12 x2 a4 1 λx3=>L10 x3 λx4=>L15 (a2.plus 4) λx5=>L12 x5 a4 1 λx6=>L10 x6 λx7=>sh (G.iP x1 x4 x7) λx8=>if !x8 then AI (Sum.inr false) else G.gm a0 a1 a2 a3 (i64.wrap (a4+1)) else AI (Sum.inl ())
def tG (G:bE)(n:Nat)(a0 a1 a2:Addr):M Bool:=L10 (a1.plus 0) λx0=>if decide (x0=10) then L19 (a1.plus 2) λx1=>if !x1 then L15 (a1.plus 3) λx2=>sh (G.kQ a0 a1 a2 x2 (↑x2.len:Int) 0) (bu (λx3=>AI true) (λx3=>AI x3)) else L15 (a1.plus 4) λx2=>sh (G.gm a0 a1 a2 (↑x2.len:Int) 0) (bu (λx3=>AI true) (λx3=>AI x3)) else L15 (a1.plus 4) λx1=>sh (G.gm a0 a1 a2 (↑x1.len:Int) 0) (bu (λx2=>AI true) (λx2=>AI x2))
def xR (G:bE)(n:Nat)(a0:Sl×Int)(a1 a2:Int):M Bool:=sh (aJ none ao [aM a0.1,vi a0.2]) λx0=>sh (eU 14) λx1=>L15 ((ai x0).plus 0) λx2=>L12 x2 a1 5 λx3=>L16 x3 λx4=>L15 ((ai x0).plus 0) λx5=>L12 x5 a2 5 λx6=>L16 x6 λx7=>sh (aJ (some (x1+10)) aW [vi 0,.string (ofBytes []),.bool false,bF,bF]) λx8=>sh (aJ (some (x1+11)) aW [vi 0,.string (ofBytes []),.bool false,bF,bF]) λx9=>sh (oo [some ((ai x0).plus 0),some x6] (bD (ai x8) [vi x4.1,.string x4.2.1,.bool x4.2.2.1,aM x4.2.2.2.1,aM x4.2.2.2.2])) λx10=>sh (bD (ai x9) [vi x7.1,.string x7.2.1,.bool x7.2.2.1,aM x7.2.2.2.1,aM x7.2.2.2.2]) λx11=>L10 ((ai x8).plus 0) λx12=>L10 ((ai x9).plus 0) λx13=>if !decide (x12=x13) then AI false else L11 ((ai x8).plus 1) λx14=>L11 ((ai x9).plus 1) λx15=>if !mY x14 x15 then AI false else L19 ((ai x8).plus 2) λx16=>L19 ((ai x9).plus 2) λx17=>if !x16==x17 then AI false else L15 ((ai x8).plus 4) λx18=>L15 ((ai x9).plus 4) λx19=>if !decide ((↑x18.len:Int)=(↑x19.len:Int)) then AI false else tG G n (ai x0) (ai x8) (ai x9)
def bE.at:Nat->bE|0=>⟨λ_ _ _ _ _ _ _ _ _ _ _ _=>AS,λ_ _ _ _ _ _=>AS,λ_ _ _ _ _=>AS,λ_ _ _=>AS⟩|n+1=>⟨tD (bE.at n) n,tE (bE.at n) n,tF (bE.at n) n,xR (bE.at n) n⟩
def hO:=(bE.at n).hO
theorem Bv:hO (n+1)=tD (bE.at n) n:=rfl
def kQ:=(bE.at n).kQ
theorem Bw:kQ (n+1)=tE (bE.at n) n:=rfl
def gm:=(bE.at n).gm
theorem Bx:gm (n+1)=tF (bE.at n) n:=rfl
def iP:=(bE.at n).iP
theorem EY:iP (n+1)=xR (bE.at n) n:=rfl
def Ii:=tG (bE.at n) n
abbrev XD:aS:=⟨50,[.agg [.sl,.int .i64],aq,aq],[hS],υ3 (iP n)⟩
abbrev J7:L2:=⟨[0,1,0,0,1,0,1,1,1],[(3,aG),(7,aG),(8,aG),(62,bU),(63,aq),(64,aq)],[],[(6,hS)],[6]++List.range' 9 5++List.range' 64 38,0,.ret,λn=>υ6 (kQ n)⟩
abbrev J8:L1:=⟨[0,1,0,1,1,0,0,1,1,0,0,1,0,0,1,0,1,1,1],[(3,aG),(7,aG),(8,aG),(9,aq),(10,aq),(11,hS),(62,bU),(63,aq),(64,aq),(70,bU),(71,aq),(72,aq)],[(11,hS)],[11,12,13]++List.range' 72 27,2,λn=>υ12 (hO n)⟩
abbrev J9:L2:=⟨[0,1,0,1,1,1,1],[(3,aG),(7,aG),(8,aG),(104,aq),(105,aq)],[],[(6,hS)],[6,14]++List.range' 105 37,4,.ret,λn=>υ5 (gm n)⟩
abbrev XE:List aS:=XD n::C57 n
def Kc (i:Nat):Option (List (Nat×η)):=Κ i 1 (Ω [0,2,5,7,1,3,4,6,8,9,10,11]++[(12,[6,9])]++Ω [13]) (Κ i 12 (Ω [0,1,3,4,2,5,6,8,10,13,15,7,9,11,12,14,16,17,18,19,20,21]) (Κ i 21 (Ω [0,1,2,3,5,7,10,12,4,6,8,9,11,13,14,15,16,17,18,20,22,25,27,19,21,23,24,26,28,29,30,31,32]) none))
abbrev afN:List (fT Bool):=[⟨[0,0,1,1,1],[.code [1,0,1,1,1],.code [1,1,1,1]],[(3,aG),(7,aG),(8,aG)],υ3 (Ii n)⟩]
def oI:Prop:=aF TZp (XD n)
theorem NP (H:oI n):aC TZp (XE n):=.cons H (K57 n)
theorem Ul (H:∀m,m<n->oI m):iJ TZp f50 (J8.e n) J8.ws:=L1.ok f50 J8 n XE (dr:=Kc) (hT:=λm hm=>.m1 (NP m (H m hm)))
theorem Um (H:∀m,m<n->oI m):iJ TZp f50 (J7.e n) J7.ws:=L2.ok f50 J7 n XE (lt:=λn=>[J8.e n]) (dr:=Kc) (hT:=λm hm=>⟨.nil,NP m (H m hm),.nil,(.cc (Ul m (λk hk=>H k (aiu hk hm))) .nil),.nil⟩)
theorem Un (H:∀m,m<n->oI m):iJ TZp f50 (J9.e n) J9.ws:=L2.ok f50 J9 n XE (dr:=Kc) (hT:=λm hm=>.m1 (NP m (H m hm)))
theorem Bz (H:∀m,m<n+1->oI m):aF TZp (XD (n+1)):=aY f50 (XE n) (ll:=[J7.e n,J9.e n]) (dr:=Kc) (js:=afN n) (hT:=⟨.nil,NP n (H n (aad n)),.nil,(.cc (Um n (λk hk=>H k (acy hk))) (.cc (Un n (λk hk=>H k (acy hk))) .nil)),(.cc .nil)⟩)
theorem DI:∀n m,m<n->oI m:=by
 intro n
 induction n with
 |zero=>intro m hm;exact absurd hm (aji m)
 |succ n ih=>
  intro m hm;cases m with
  |zero=>exact gr (fn:=f50) (by kernel_rfl) (by kernel_rfl) (by kernel_rfl) (λ_=>rfl)
  |succ k=>exact Bz k λm hm=>ih m (by omega)
theorem K58:aC TZp (XE n):=NP n (DI (n+1) n (aad n))
def rZ (G:τ23)(n:Nat):τ23:=λa0 a1 a2 a3 a4 a5 a6 a7 a8 a9 a10 a11 a12=>if decide (a12<a11) then L12 a10 a12 1 λx0=>L10 x0 λx1=>L28 a0 λx2=>sh (iP n x2 a2 x1) λx3=>if x3 then AI (Sum.inr true) else G a0 a1 a2 a3 a4 a5 a6 a7 a8 a9 a10 a11 (i64.wrap (a12+1)) else AI (Sum.inl ())
def lE:=lp0 rZ
theorem Ay:lE (n+1)=rZ (lE n) n:=rfl
def r7 (G:τ24)(n:Nat):τ24:=λa0 a1 a2 a3 a4 a5 a6 a7=>if decide (a7<a6) then L12 a5 a7 1 λx0=>L10 x0 λx1=>sh (eU 15) λx2=>L15 (a0.plus 0) λx3=>L12 x3 x1 5 λx4=>L10 (x4.plus 0) λx5=>L15 (a0.plus 0) λx6=>L12 x6 x1 5 λx7=>L11 (x7.plus 1) λx8=>sh (aJ (some (x2+13)) aA [vi 0,.string (ofBytes [])]) λx9=>sh (bD (ai x9) [vi x5,.string x8]) λx10=>L29 (ai x9) λx11=>sh (rK aA (Ty.one .sl) uV a1 (Value.agg #[vi x11.1,.string x11.2])) λ(x12:Bool×Sl)=>sh (lE n a0 a1 x1 (ai x9) a2 a3 a4 a5 a6 a7 x12.2 (↑x12.2.len:Int) 0) (bu (λx13=>L29 (ai x9) λx14=>sh (xk aA (Ty.one .sl) uV a1 (Value.agg #[vi x14.1,.string x14.2])) λx15=>sh (app false x15.1 1 ar 1 [vi x1]) λx16=>sh (xl a1 (↑x15.2:Int) (aM x16)) λx17=>G a0 a1 a2 a3 a4 a5 a6 (i64.wrap (a7+1))) (λx13=>AI (Sum.inr x13))) else AI (Sum.inl ())
def jG:=lp0 r7
theorem Az:jG (n+1)=r7 (jG n) n:=rfl
def r8 (G:τ25)(n:Nat):τ25:=λa0 a1 a2 a3=>if decide (a3<a2) then L12 a1 a3 5 λx0=>L16 x0 λx1=>L17 λx2=>sh (bD (ai x2) [vi x1.1,.string x1.2.1,.bool x1.2.2.1,aM x1.2.2.2.1,aM x1.2.2.2.2]) λx3=>sh (B5 aA) λx4=>L15 ((ai x2).plus 3) λx5=>sh (jG n a0 (some x4) a1 a2 a3 x5 (↑x5.len:Int) 0) (bu (λx6=>G a0 a1 a2 (i64.wrap (a3+1))) (λx6=>AI (Sum.inr x6))) else AI (Sum.inl ())
def jH:=lp0 r8
theorem AA:jH (n+1)=r8 (jH n) n:=rfl
def vN (a0:Sl×Int):M Bool:=sh (aJ none ao [aM a0.1,vi a0.2]) λx0=>L15 ((ai x0).plus 0) λx1=>sh (jH n (ai x0) x1 (↑x1.len:Int) 0) (bu (λx2=>AI false) (λx2=>AI x2))
abbrev Kd:L2:=⟨[0,1,0,1],[(1,aG),(12,bU),(13,aq),(14,aq)],[],[(2,hS)],[2,4,5,7,8,10]++List.range' 14 48,0,.ret,λn=>υ4 (jH n)⟩
abbrev Ke:L2:=⟨[0,1,1,1,0,0,1,1,0,0,1,0,1],[(1,aG),(5,OX),(12,bU),(13,aq),(14,aq),(20,bU),(21,aq),(22,aq)],[],[(2,hS)],[2,7,8,10]++List.range' 22 39,2,.ret,λn=>υ8 (jG n)⟩
abbrev Kf:L2:=⟨[0,1,0,1,1,0,0,1,1,0,0,1,1,1,0,0,1,1,0,0,1,0,1],[(1,aG),(5,OX),(7,aq),(8,aG),(12,bU),(13,aq),(14,aq),(20,bU),(21,aq),(22,aq),(41,bU),(42,aq),(43,aq)],[],[(2,hS)],[2,10]++List.range' 43 9,4,.ret,λn=>υ13 (lE n)⟩
def Kg (i:Nat):Option (List (Nat×η)):=Κ i 8 (Ω [0,2,6,8,1,3,4,5,7,9,10,11,12,13,14]) none
theorem Uo:iJ TZp f38 (Kf.e n) Kf.ws:=L2.ok f38 Kf n XE (dr:=Kg) (hT:=λm _=>.m1 (K58 m))
theorem Uq:iJ TZp f38 (Ke.e n) Ke.ws:=L2.ok f38 Ke n XE (lt:=λn=>[Kf.e n]) (dr:=Kg) (hT:=λm _=>⟨.nil,K58 m,.nil,(.cc (Uo m) .nil),.nil⟩)
theorem Ur:iJ TZp f38 (Kd.e n) Kd.ws:=L2.ok f38 Kd n XE (lt:=λn=>[Ke.e n]) (dr:=Kg) (hT:=λm _=>⟨.nil,K58 m,.nil,(.cc (Uq m) .nil),.nil⟩)
abbrev C59:List aS:=⟨38,[.agg [.sl,.int .i64]],[hS],λx=>vN n x⟩::XE n
theorem K59:aC TZp (C59 n):=.cons (aY f38 (XE n) (ll:=[Kd.e n]) (dr:=Kg) (hT:=⟨.nil,K58 n,.nil,(.cc (Ur n) .nil),.nil⟩)) (K58 n)
structure aw where
 dW:Addr->Addr->Addr->Addr->Addr->Int->M Int
 dX:Addr->Addr->Addr->Addr->Addr->Addr->Addr->ξ->Sl->Int->Int->M Unit
 dY:Addr->Addr->Addr->Addr->Addr->Addr->Addr->Addr->ξ->Sl->Int->Int->M Unit
 dQ:Int->Addr->Addr->Addr->Addr->Addr->Addr->Addr->Addr->Addr->M Unit
 dJ:Int->Addr->Addr->Addr->Addr->Addr->M Unit
def fM (G:aw)(n:Nat)(x:ξ)(a0:Int):M Unit:=if pG jg x then sh (nU [aG,aG,aG,aG,aG] x) λ(c:Addr×Addr×Addr×Addr×Addr)=>G.dJ a0 c.1 c.2.1 c.2.2.1 c.2.2.2.1 c.2.2.2.2 else AS
abbrev kR:=fM
def jI (G:aw)(n:Nat)(x:ξ)(a0:Int):M Unit:=if pG kA x then sh (nU [aG,aG,aG,aG,aG,aG,aG,aG,aG] x) λ(c:Addr×Addr×Addr×Addr×Addr×Addr×Addr×Addr×Addr)=>G.dQ a0 c.1 c.2.1 c.2.2.1 c.2.2.2.1 c.2.2.2.2.1 c.2.2.2.2.2.1 c.2.2.2.2.2.2.1 c.2.2.2.2.2.2.2.1 c.2.2.2.2.2.2.2.2 else AS
def lF (G:aw)(n:Nat)(a0 a1 a2 a3 a4:Addr)(a5:Int):M Int:=L15 a0 λx0=>L15 a0 λx1=>L12 x0 (i64.wrap ((↑x1.len:Int)-1)) 1 λx2=>L10 x2 λx3=>L15 a0 λx4=>L15 a0 λx5=>sh (jT x4 0 (i64.wrap ((↑x5.len:Int)-1)) ar 1) λx6=>sh (bD a0 [aM x6]) λx7=>L15 a1 λx8=>L12 x8 x3 1 λx9=>sh (bD x9 [.bool false]) λx10=>L15 a3 λx11=>L15 a2 λx12=>L12 x11 x3 1 λx13=>sh (bD x13 [vi (↑x12.len:Int)]) λx14=>L10 a4 λx15=>if decide (x3=x15) then AI (i64.wrap (a5+1)) else G.dW a0 a1 a2 a3 a4 (i64.wrap (a5+1))
def lG (G:aw)(n:Nat)(a0 a1 a2 a3 a4 a5 a6:Addr)(a7:ξ)(a8:Sl)(a9 a10:Int):M Unit:=if decide (a10<a9) then L12 a8 a10 1 λx0=>L10 x0 λx1=>sh (kR G n a7 x1) λx2=>G.dX a0 a1 a2 a3 a4 a5 a6 a7 a8 a9 (i64.wrap (a10+1)) else AI ()
def lH (G:aw)(n:Nat)(a0 a1 a2 a3 a4 a5 a6 a7:Addr)(a8:ξ)(a9:Sl)(a10 a11:Int):M Unit:=if decide (a11<a10) then L12 a9 a11 1 λx0=>L10 x0 λx1=>sh (fM G n a8 x1) λx2=>G.dY a0 a1 a2 a3 a4 a5 a6 a7 a8 a9 a10 (i64.wrap (a11+1)) else AI ()
def oa (G:aw)(n:Nat)(a0:Int)(a1 a2 a3 a4 a5 a6 a7 a8 a9:Addr):M Unit:=sh (aJ none ar [vi a0]) λx0=>L10 a1 λx1=>sh (bD a1 [vi (i64.wrap (x1+1))]) λx2=>L15 a2 λx3=>L10 (ai x0) λx4=>L15 a3 λx5=>L10 (ai x0) λx6=>L10 a1 λx7=>L12 x3 x4 1 λx8=>L10 a1 λx9=>sh (oo [some a3,some (ai x0),some a1] (bD x8 [vi x7])) λx10=>L12 x5 x6 1 λx11=>sh (bD x11 [vi x9]) λx12=>L15 a4 λx13=>L10 (ai x0) λx14=>sh (app false x13 1 ar 1 [vi x14]) λx15=>sh (bD a4 [aM x15]) λx16=>L15 a5 λx17=>L10 (ai x0) λx18=>L12 x17 x18 1 λx19=>sh (bD x19 [.bool true]) λx20=>L15 (a7.plus 0) λx21=>L10 (ai x0) λx22=>L12 x21 x22 5 λx23=>L15 (x23.plus 3) λx24=>sh (G.dY a2 a3 a4 a5 a7 a8 a9 (ai x0) (Value.func (Fn.func jg) #[] #[.pointer (some a2),.pointer (some a6),.pointer (some a3),.pointer (some (ai x0)),.pointer (some a5)]) x24 (↑x24.len:Int) 0) λx25=>L15 (a7.plus 0) λx26=>L10 (ai x0) λx27=>L12 x26 x27 5 λx28=>L15 (x28.plus 4) λx29=>sh (G.dX a2 a3 a4 a5 a8 a9 (ai x0) (Value.func (Fn.func jg) #[] #[.pointer (some a2),.pointer (some a6),.pointer (some a3),.pointer (some (ai x0)),.pointer (some a5)]) x29 (↑x29.len:Int) 0) λx30=>L15 a3 λx31=>L10 (ai x0) λx32=>L12 x31 x32 1 λx33=>L10 x33 λx34=>L15 a2 λx35=>L10 (ai x0) λx36=>L12 x35 x36 1 λx37=>L10 x37 λx38=>if !decide (x34=x38) then AI () else sh (G.dW a4 a5 a8 a9 (ai x0) 0) λx39=>L15 a8 λx40=>sh (app false x40 1 ar 1 [vi x39]) λx41=>sh (bD a8 [aM x41]) λx42=>AI ()
def mE (G:aw)(n:Nat)(a0:Int)(a1 a2 a3 a4 a5:Addr):M Unit:=L15 a1 λx0=>L12 x0 a0 1 λx1=>L10 x1 λx2=>if decide (x2=0) then L18 a2 λx3=>sh (jI G n x3 a0) λx4=>L15 a3 λx5=>L10 a4 λx6=>L15 a3 λx7=>L10 a4 λx8=>L12 x7 x8 1 λx9=>L10 x9 λx10=>L15 a3 λx11=>L12 x11 a0 1 λx12=>L10 x12 λx13=>L12 x5 x6 1 λx14=>sh (bD x14 [vi (if x13<x10 then x13 else x10)]) λx15=>AI () else L15 a5 λx3=>L12 x3 a0 1 λx4=>L19 x4 λx5=>if x5 then L15 a3 λx6=>L10 a4 λx7=>L15 a3 λx8=>L10 a4 λx9=>L12 x8 x9 1 λx10=>L10 x10 λx11=>L15 a1 λx12=>L12 x12 a0 1 λx13=>L10 x13 λx14=>L12 x6 x7 1 λx15=>sh (bD x15 [vi (if x14<x11 then x14 else x11)]) λx16=>AI () else AI ()
def aw.at:Nat->aw|0=>⟨λ_ _ _ _ _ _=>AS,λ_ _ _ _ _ _ _ _ _ _ _=>AS,λ_ _ _ _ _ _ _ _ _ _ _ _=>AS,λ_ _ _ _ _ _ _ _ _ _=>AS,λ_ _ _ _ _ _=>AS⟩|n+1=>⟨lF (aw.at n) n,lG (aw.at n) n,lH (aw.at n) n,oa (aw.at n) n,mE (aw.at n) n⟩
def dW:=(aw.at n).dW
theorem u5:dW (n+1)=lF (aw.at n) n:=rfl
def dX:=(aw.at n).dX
theorem u6:dX (n+1)=lG (aw.at n) n:=rfl
def dY:=(aw.at n).dY
theorem u7:dY (n+1)=lH (aw.at n) n:=rfl
def dQ:=(aw.at n).dQ
theorem wZ:dQ (n+1)=oa (aw.at n) n:=rfl
def dJ:=(aw.at n).dJ
theorem vz:dJ (n+1)=mE (aw.at n) n:=rfl
def xS:=fM (aw.at n) n
def xU:=kR (aw.at n) n
def wy:=jI (aw.at n) n
abbrev RW:aS:=⟨64,[aq,aG,aG,aG,aG,aG,aG,aG,aG,aG],[],υ10 (dQ n)⟩
abbrev Kh:L1:=⟨[0,1,0,1,1,1,1,1,1],[(2,aG),(3,aG),(4,aG),(5,aG),(7,aG),(8,aG),(9,aG),(10,aG),(11,s9),(41,bU),(42,aq),(43,aq)],[],[13]++List.range' 43 8,0,λn=>υ12 (dY n)⟩
abbrev Ki:L1:=⟨[0,1,0,1,1,1,1,1,1,1],[(2,aG),(3,aG),(4,aG),(5,aG),(8,aG),(9,aG),(10,aG),(11,s9),(56,bU),(57,aq),(58,aq)],[],[15]++List.range' 58 8,2,λn=>υ11 (dX n)⟩
abbrev Kj:L1:=⟨[0,0,1,1,1,1,1,1,1,1,1,1],[(4,aG),(5,aG),(8,aG),(9,aG),(10,aG),(16,aq)],[(16,aq)],[16,17]++List.range' 75 24,4,λn=>υ6 (dW n)⟩
abbrev XF:aS:=⟨65,[aq,aG,aG,aG,aG,aG],[],υ6 (dJ n)⟩
abbrev C60:List aS:=RW n::XF n::C59 n
abbrev G3:List jV:=[⟨47,[aq],[],λx a=>xS n x a⟩, ⟨62,[aq],[],λx a=>xU n x a⟩]
def Kl (i:Nat):Option (List (Nat×η)):=Κ i 2 (Ω [0,1,2,3,4,6,5]++[(7,[2,3,5])]++Ω [8,9]) (Κ i 16 (Ω [0,1,2,3,4,5,6,7,8]) none)
abbrev XG:List jV:=[⟨12,[aq],[],λx a=>wy n x a⟩]
def afO (i:Nat):Option (List (Nat×η)):=Κ i 2 (Ω [7,0,1,2,3,4,5,6,8,9,10,11,12]) (Κ i 4 (Ω [7,0,1,2,3,4,5,6,8,9,10,11,12]) none)
def cW:Prop:=aF TZp (RW n)/\aF TZp (XF n)
theorem IX (H:cW n):aC TZp (C60 n):=.cons H.1 (.cons H.2 (K59 n))
theorem Kn (H:cW n):qc TZp (G3 n):=.cons (dB (l:=[⟨65,[aG,aG,aG,aG,aG],λa c=>dJ n a c.1 c.2.1 c.2.2.1 c.2.2.2.1 c.2.2.2.2⟩]) (.cons (λa c=>aL (by kernel_rfl) ((H).2 (a,c.1,c.2.1,c.2.2.1,c.2.2.2.1,c.2.2.2.2))) .nil) (λx a=>by kernel_rfl)) (.cons (dB (l:=[⟨65,[aG,aG,aG,aG,aG],λa c=>dJ n a c.1 c.2.1 c.2.2.1 c.2.2.2.1 c.2.2.2.2⟩]) (.cons (λa c=>aL (by kernel_rfl) ((H).2 (a,c.1,c.2.1,c.2.2.1,c.2.2.2.1,c.2.2.2.2))) .nil) (λx a=>by kernel_rfl)) .nil)
theorem Us (H:∀m,m<n->cW m):iJ TZp f64 (Kj.e n) Kj.ws:=L1.ok f64 Kj n C60 (dt:=G3) (dr:=Kl) (hT:=λm hm=>⟨.nil,IX m (H m hm),(Kn m (H m hm)),.nil,.nil⟩)
theorem Ut (H:∀m,m<n->cW m):iJ TZp f64 (Ki.e n) Ki.ws:=L1.ok f64 Ki n C60 (dt:=G3) (dr:=Kl) (hT:=λm hm=>⟨.nil,IX m (H m hm),(Kn m (H m hm)),.nil,.nil⟩)
theorem Uu (H:∀m,m<n->cW m):iJ TZp f64 (Kh.e n) Kh.ws:=L1.ok f64 Kh n C60 (dt:=G3) (dr:=Kl) (hT:=λm hm=>⟨.nil,IX m (H m hm),(Kn m (H m hm)),.nil,.nil⟩)
theorem u9 (H:∀m,m<n+1->cW m):aF TZp (RW (n+1)):=aY f64 (C60 n) (dl:=G3 n) (ll:=[Kh.e n,Ki.e n,Kj.e n]) (dr:=Kl) (hT:=⟨.nil,IX n (H n (aad n)),(Kn n (H n (aad n))),(.cc (Uu n (λk hk=>H k (acy hk))) (.cc (Ut n (λk hk=>H k (acy hk))) (.cc (Us n (λk hk=>H k (acy hk))) .nil))),.nil⟩)
theorem afP (H:cW n):qc TZp (XG n):=.cons (dB (l:=[⟨64,[aG,aG,aG,aG,aG,aG,aG,aG,aG],λa c=>dQ n a c.1 c.2.1 c.2.2.1 c.2.2.2.1 c.2.2.2.2.1 c.2.2.2.2.2.1 c.2.2.2.2.2.2.1 c.2.2.2.2.2.2.2.1 c.2.2.2.2.2.2.2.2⟩]) (.cons (λa c=>aL (by kernel_rfl) ((H).1 (a,c.1,c.2.1,c.2.2.1,c.2.2.2.1,c.2.2.2.2.1,c.2.2.2.2.2.1,c.2.2.2.2.2.2.1,c.2.2.2.2.2.2.2.1,c.2.2.2.2.2.2.2.2))) .nil) (λx a=>by kernel_rfl)) .nil
theorem tH (H:∀m,m<n+1->cW m):aF TZp (XF (n+1)):=aY f65 (C60 n) (dl:=XG n) (dr:=afO) (hT:=⟨.nil,IX n (H n (aad n)),(afP n (H n (aad n))),.nil,.nil⟩)
theorem pc:∀n m,m<n->cW m:=by
 intro n
 induction n with
 |zero=>intro m hm;exact absurd hm (aji m)
 |succ n ih=>
  intro m hm;cases m with
  |zero=>exact⟨gr (fn:=f64) (by kernel_rfl) (by kernel_rfl) (by kernel_rfl) (λ_=>rfl),gr (fn:=f65) (by kernel_rfl) (by kernel_rfl) (by kernel_rfl) (λ_=>rfl)⟩
  |succ k=>exact⟨u9 k λm hm=>ih m (by omega),tH k λm hm=>ih m (by omega)⟩
theorem yN:aF TZp (RW n):=(pc (n+1) n (aad n)).1
theorem K60:aC TZp (C60 n):=IX n (pc (n+1) n (aad n))
def oc (x:ξ)(a0:Int):M Unit:=if pG kA x then sh (nU [aG,aG,aG,aG,aG,aG,aG,aG,aG] x) λ(c:Addr×Addr×Addr×Addr×Addr×Addr×Addr×Addr×Addr)=>dQ n a0 c.1 c.2.1 c.2.2.1 c.2.2.2.1 c.2.2.2.2.1 c.2.2.2.2.2.1 c.2.2.2.2.2.2.1 c.2.2.2.2.2.2.2.1 c.2.2.2.2.2.2.2.2 else AS
def nA (G:τ26)(n:Nat):τ26:=λa0 a1 a2 a3 a4 a5 a6=>if decide (a6<a5) then L15 a4 λx0=>L12 x0 a6 1 λx1=>sh (bD x1 [vi (-1)]) λx2=>G a0 a1 a2 a3 a4 a5 (i64.wrap (a6+1)) else AI ()
def gE:=lp0 nA
theorem wz:gE (n+1)=nA (gE n) n:=rfl
def oJ (a0:Sl×Int):M (Sl×Sl):=sh (aJ none ao [aM a0.1,vi a0.2]) λx0=>L15 ((ai x0).plus 0) λx1=>sh (eU 12) λx2=>sh (vG (some (x2+1)) ar [vi 0] (↑x1.len:Int) (↑x1.len:Int)) λx3=>sh (vG (some (x2+3)) ar [vi 0] (↑x1.len:Int) (↑x1.len:Int)) λx4=>sh (vG (some (x2+5)) ar [vi 0] (↑x1.len:Int) (↑x1.len:Int)) λx5=>sh (aJ (some (x2+6)) bt [bF]) λx6=>sh (aJ (some (x2+7)) bt [bF]) λx7=>sh (aJ (some (x2+8)) bt [bF]) λx8=>sh (Gd [x2+3,x2+5] (ai x6) (oo [none,none] (bD (ai x6) [aM x3]))) λx9=>sh (Gd [x2+5] (ai x7) (oo [none] (bD (ai x7) [aM x4]))) λx10=>sh (bD (ai x8) [aM x5]) λx11=>L15 (ai x8) λx12=>sh (gE n (ai x0) (↑x1.len:Int) (ai x6) (ai x7) (ai x8) (↑x12.len:Int) 0) λx13=>L30 λx14=>L30 λx15=>sh (vG none nV [.bool false] (↑x1.len:Int) (↑x1.len:Int)) λx16=>sh (aJ none uH [bF]) λx17=>sh (bD (ai x17) [aM x16]) λx18=>L27 λx19=>sh (bD (ai x19) [vi 0]) λx20=>L20 λx21=>sh (bD (ai x21) [.func (Fn.func kA) #[] #[.pointer (some (ai x19)),.pointer (some (ai x6)),.pointer (some (ai x7)),.pointer (some (ai x15)),.pointer (some (ai x17)),.pointer (some (ai x21)),.pointer (some (ai x0)),.pointer (some (ai x14)),.pointer (some (ai x8))]]) λx22=>L18 (ai x21) λx23=>L10 ((ai x0).plus 1) λx24=>sh (oc n x23 x24) λx25=>L15 (ai x8) λx26=>L15 (ai x14) λx27=>AI (x26,x27)
abbrev Ko:L1:=⟨[0,1,0,1,1,1],[(1,aG),(4,aq),(5,aG),(6,aG),(7,aG),(24,aq),(25,aq)],[],[8]++List.range' 25 7,0,λn=>υ7 (gE n)⟩
abbrev PW:List jV:=[⟨35,[aq],[],λx a=>oc n x a⟩]
def XH (i:Nat):Option (List (Nat×η)):=Κ i 2 (Ω [0,2,4,1,3,5,6,7,8]++[(9,[3,5]),(10,[5])]++Ω [11]) (Κ i 14 (Ω [0,2,1,3]) none)
theorem XI:qc TZp (PW n):=.cons (dB (l:=[⟨64,[aG,aG,aG,aG,aG,aG,aG,aG,aG],λa c=>dQ n a c.1 c.2.1 c.2.2.1 c.2.2.2.1 c.2.2.2.2.1 c.2.2.2.2.2.1 c.2.2.2.2.2.2.1 c.2.2.2.2.2.2.2.1 c.2.2.2.2.2.2.2.2⟩]) (.cons (λa c=>aL (by kernel_rfl) ((yN n) (a,c.1,c.2.1,c.2.2.1,c.2.2.2.1,c.2.2.2.2.1,c.2.2.2.2.2.1,c.2.2.2.2.2.2.1,c.2.2.2.2.2.2.2.1,c.2.2.2.2.2.2.2.2))) .nil) (λx a=>by kernel_rfl)) .nil
theorem Uv:iJ TZp f51 (Ko.e n) Ko.ws:=L1.ok f51 Ko n C60 (dt:=PW) (dr:=XH) (hT:=λm _=>⟨.nil,K60 m,(XI m),.nil,.nil⟩)
abbrev C61:List aS:=⟨51,[.agg [.sl,.int .i64]],[bU,bU],λx=>oJ n x⟩::C60 n
theorem K61:aC TZp (C61 n):=.cons (aY f51 (C60 n) (dl:=PW n) (ll:=[Ko.e n]) (dr:=XH) (hT:=⟨.nil,K60 n,(XI n),(.cc (Uv n) .nil),.nil⟩)) (K60 n)
def r9 (G:τ27)(n:Nat):τ27:=λa0 a1 a2 a3 a4 a5 a6 a7 a8 a9 a10 a11 a12 a13 a14 a15 a16 a17=>if decide (a17<a16) then L12 a15 a17 1 λx0=>L10 x0 λx1=>L12 a1 x1 1 λx2=>L10 x2 λx3=>if decide (x3=a6) then G a0 a1 a2 false a4 a5 a6 a7 a8 a9 a10 a11 a12 a13 a14 a15 a16 (i64.wrap (a17+1)) else L12 a4 a6 1 λx4=>L12 a1 x1 1 λx5=>L10 x4 λx6=>L10 x5 λx7=>L12 a4 x7 1 λx8=>L10 x8 λx9=>L12 a4 a6 1 λx10=>sh (bD x10 [vi (if x6<x9 then x9 else x6)]) λx11=>G a0 a1 a2 a3 a4 a5 a6 a7 a8 a9 a10 a11 a12 a13 a14 a15 a16 (i64.wrap (a17+1)) else AI a3
def lI:=lp0 r9
theorem AD:lI (n+1)=r9 (lI n) n:=rfl
def lJ (G:τ28)(n:Nat):τ28:=λa0 a1 a2 a3 a4 a5 a6 a7 a8 a9 a10 a11 a12 a13 a14=>if decide (a14<a13) then L12 a12 a14 1 λx0=>L15 x0 λx1=>sh (lI n a0 a1 a2 a3 a4 a5 a6 a7 a8 a9 a10 a11 a12 a13 a14 x1 (↑x1.len:Int) 0) λx2=>G a0 a1 a2 x2 a4 a5 a6 a7 a8 a9 a10 a11 a12 a13 (i64.wrap (a14+1)) else AI a3
def lK:=lp0 lJ
theorem oR:lK (n+1)=lJ (lK n) n:=rfl
def sd (G:τ29)(n:Nat):τ29:=λa0 a1 a2 a3 a4 a5 a6 a7 a8 a9 a10 a11=>if decide (a11<a10) then L12 a9 a11 1 λx0=>L10 x0 λx1=>sh (eU 15) λx2=>L15 (a0.plus 0) λx3=>L12 x3 x1 5 λx4=>L15 (x4.plus 3) λx5=>L15 (a0.plus 0) λx6=>L12 x6 x1 5 λx7=>L15 (x7.plus 4) λx8=>sh (aJ (some (x2+12)) bt [aM x5,aM x8]) λx9=>sh (lK n a0 a1 a2 a3 a4 a5 a6 a7 a8 a9 a10 a11 { a:=some (ai x9),len:=2,cap:=3 } (↑2:Int) 0) λx10=>G a0 a1 a2 x10 a4 a5 a6 a7 a8 a9 a10 (i64.wrap (a11+1)) else AI a3
def lL:=lp0 sd
theorem AE:lL (n+1)=sd (lL n) n:=rfl
def se (G:τ30)(n:Nat):τ30:=λa0 a1 a2 a3 a4 a5 a6 a7=>if decide (a7<a6) then L12 a5 a7 1 λx0=>L15 x0 λx1=>sh (lL n a0 a1 a2 a3 a4 a5 a7 a6 a7 x1 (↑x1.len:Int) 0) λx2=>L12 a4 a7 1 λx3=>L12 a2 a7 1 λx4=>L10 x3 λx5=>L10 x4 λx6=>L12 a4 a7 1 λx7=>sh (bD x7 [vi (i64.wrap (x5+x6))]) λx8=>G a0 a1 a2 x2 a4 a5 a6 (i64.wrap (a7+1)) else AI a3
def lM:=lp0 se
theorem AF:lM (n+1)=se (lM n) n:=rfl
def sf (G:τ31)(n:Nat):τ31:=λa0 a1 a2 a3 a4 a5 a6 a7 a8=>if decide (a8<a7) then L12 a6 a8 1 λx0=>L10 x0 λx1=>L12 a5 x1 1 λx2=>L15 x2 λx3=>sh (app false x3 1 ar 1 [vi a8]) λx4=>L12 a5 x1 1 λx5=>sh (bD x5 [aM x4]) λx6=>G a0 a1 a2 a3 a4 a5 a6 a7 (i64.wrap (a8+1)) else AI ()
def lN:=lp0 sf
theorem AG:lN (n+1)=sf (lN n) n:=rfl
def tf (a0:Sl×Int):M (Int×Bool):=sh (aJ none ao [aM a0.1,vi a0.2]) λx0=>L28 (ai x0) λx1=>sh (oJ n x1) λx2=>sh (vG none ar [vi 0] (↑x2.2.len:Int) (↑x2.2.len:Int)) λx3=>sh (vG none bt [bF] (↑x2.2.len:Int) (↑x2.2.len:Int)) λx4=>sh (lN n (ai x0) x2.1 x2.2 true x3 x4 x2.1 (↑x2.1.len:Int) 0) λx5=>sh (lM n (ai x0) x2.1 x2.2 true x3 x4 (↑x2.2.len:Int) 0) λx6=>L10 ((ai x0).plus 1) λx7=>L12 x2.1 x7 1 λx8=>L10 x8 λx9=>L12 x3 x9 1 λx10=>L10 x10 λx11=>AI (i64.wrap (x11-1),x6)
abbrev Kp:L1:=⟨[0,1,0,1,1,1,1,1],[(1,aG),(4,bU),(5,bU),(6,hS),(7,bU),(8,bU),(29,bU),(30,aq),(31,aq)],[],[9,10]++List.range' 31 16,0,λn=>υ9 (lN n)⟩
abbrev Kq:L1:=⟨[0,1,0,1,1,1,1,1,1],[(1,aG),(4,bU),(5,bU),(6,hS),(7,bU),(8,bU),(48,aq),(49,aq)],[(6,hS)],[6,11,13,15,17]++List.range' 49 71,2,λn=>υ8 (lM n)⟩
abbrev Kr:L1:=⟨[0,1,0,1,0,0,1,1,0,0,1,0,1,1,1,1,1,1],[(1,aG),(4,bU),(5,bU),(6,hS),(7,bU),(8,bU),(11,aq),(48,aq),(49,aq),(55,bU),(56,aq),(57,aq)],[(6,hS)],[6,13,15,17]++List.range' 57 52,4,λn=>υ12 (lL n)⟩
abbrev Ks:L1:=⟨[0,1,1,0,0,1,1,0,0,1,0,1,0,0,1,1,0,0,1,0,1,1,1,1,1,1],[(1,aG),(4,bU),(5,bU),(6,hS),(7,bU),(8,bU),(11,aq),(48,aq),(49,aq),(55,bU),(56,aq),(57,aq),(73,bU),(74,aq),(75,aq)],[(6,hS)],[6,15,17]++List.range' 75 33,6,λn=>υ15 (lK n)⟩
abbrev Kt:L1:=⟨[0,1,1,0,0,1,1,0,0,1,1,0,0,1,1,0,0,1,0,1,0,0,1,1,0,0,1,0,1,1,1,1,1,1],[(1,aG),(4,bU),(5,bU),(6,hS),(7,bU),(8,bU),(11,aq),(48,aq),(49,aq),(55,bU),(56,aq),(57,aq),(73,bU),(74,aq),(75,aq),(79,bU),(80,aq),(81,aq)],[(6,hS)],[6,17]++List.range' 81 26,8,λn=>υ18 (lI n)⟩
def DJ (i:Nat):Option (List (Nat×η)):=Κ i 16 (Ω [0,2,6,8,14,1,3,4,5,7,9,10,11,12,13]) (Κ i 24 (Ω [0,1,2,3,4,6,7,8,9,5,10,11,12,13,14,15]) (Κ i 28 (Ω [0,1,2,4,5,6,3,7,8,9,10]) none))
theorem Uw:iJ TZp f39 (Kt.e n) Kt.ws:=L1.ok f39 Kt n C61 (dr:=DJ) (hT:=λm _=>.m1 (K61 m))
theorem Ux:iJ TZp f39 (Ks.e n) Ks.ws:=L1.ok f39 Ks n C61 (lt:=λn=>[Kt.e n]) (dr:=DJ) (hT:=λm _=>⟨.nil,K61 m,.nil,(.cc (Uw m) .nil),.nil⟩)
theorem Uy:iJ TZp f39 (Kr.e n) Kr.ws:=L1.ok f39 Kr n C61 (lt:=λn=>[Ks.e n]) (dr:=DJ) (hT:=λm _=>⟨.nil,K61 m,.nil,(.cc (Ux m) .nil),.nil⟩)
theorem Uz:iJ TZp f39 (Kq.e n) Kq.ws:=L1.ok f39 Kq n C61 (lt:=λn=>[Kr.e n]) (dr:=DJ) (hT:=λm _=>⟨.nil,K61 m,.nil,(.cc (Uy m) .nil),.nil⟩)
theorem UA:iJ TZp f39 (Kp.e n) Kp.ws:=L1.ok f39 Kp n C61 (dr:=DJ) (hT:=λm _=>.m1 (K61 m))
abbrev C62:List aS:=⟨39,[.agg [.sl,.int .i64]],[aq,hS],λx=>tf n x⟩::C61 n
theorem K62:aC TZp (C62 n):=.cons (aY f39 (C61 n) (ll:=[Kp.e n,Kq.e n]) (dr:=DJ) (hT:=⟨.nil,K61 n,.nil,(.cc (UA n) (.cc (Uz n) .nil)),.nil⟩)) (K61 n)
def sk (G:τ32)(n:Nat):τ32:=λa0 a1 a2 a3 a4=>if decide (a4<a3) then L12 a2 a4 1 λx0=>L19 x0 λx1=>if x1 then L12 a1 a4 1 λx2=>L10 x2 λx3=>if !decide (x3=1) then AI (Sum.inr 3) else G a0 a1 a2 a3 (i64.wrap (a4+1)) else G a0 a1 a2 a3 (i64.wrap (a4+1)) else AI (Sum.inl ())
def lO:=lp0 sk
theorem AH:lO (n+1)=sk (lO n) n:=rfl
def sq (G:τ32)(n:Nat):τ32:=λa0 a1 a2 a3 a4=>if decide (a4<a3) then L12 a2 a4 5 λx0=>L16 x0 λx1=>L17 λx2=>sh (bD (ai x2) [vi x1.1,.string x1.2.1,.bool x1.2.2.1,aM x1.2.2.2.1,aM x1.2.2.2.2]) λx3=>L12 a1 a4 1 λx4=>L19 x4 λx5=>if !x5 then AI (Sum.inr 3) else L16 (ai x2) λx6=>sh (xQ n x6) λx7=>if !x7 then AI (Sum.inr 3) else G a0 a1 a2 a3 (i64.wrap (a4+1)) else AI (Sum.inl ())
def lP:=lp0 sq
theorem AJ:lP (n+1)=sq (lP n) n:=rfl
def va (a0:Addr):M Int:=L15 (a0.plus 0) λx0=>sh (vG none nV [.bool false] (↑x0.len:Int) (↑x0.len:Int)) λx1=>L28 a0 λx2=>L10 (a0.plus 1) λx3=>sh (nf n x2 x3 x1) λx4=>L15 (a0.plus 0) λx5=>sh (lP n a0 x1 x5 (↑x5.len:Int) 0) (bu (λx6=>L28 a0 λx7=>sh (uw n x7) λx8=>L28 a0 λx9=>sh (ux n x9) λx10=>sh (lO n a0 x8 x10 (↑x10.len:Int) 0) (bu (λx11=>L28 a0 λx12=>sh (vN n x12) λx13=>if x13 then AI 8 else L28 a0 λx14=>sh (tf n x14) λx15=>if decide (32<x15.1) then AI 5 else AI 0) (λx11=>AI x11))) (λx6=>AI x6))
def oe (a0:Sl×Int):M Int:=sh (aJ none ao [aM a0.1,vi a0.2]) λx0=>L15 ((ai x0).plus 0) λx1=>if decide (4096<(↑x1.len:Int)) then AI 7 else L15 ((ai x0).plus 0) λx2=>if decide ((↑x2.len:Int)=0) then AI 3 else L28 (ai x0) λx3=>sh (sO n x3) λx4=>if !x4 then AI 3 else va n (ai x0)
abbrev Ku:L2:=⟨[0,1,0,1,1,1,1,1],[(1,aG),(3,bU),(34,bU),(35,aq),(36,aq)],[],[(2,aq)],[2,4,5]++List.range' 36 16,0,.ret,λn=>υ5 (lP n)⟩
abbrev Kv:L2:=⟨[0,1,0,1,1,1,1,1,1,1],[(1,aG),(6,bU),(55,bU),(56,aq),(57,aq)],[],[(2,aq)],[2,7,8]++List.range' 57 14,2,.ret,λn=>υ5 (lO n)⟩
abbrev afR:List (fT Int):=[⟨[0,1,1,1],[.code [1,1,1,1]],[(1,aG)],λx=>va n x⟩]
theorem UB:iJ TZp f29 (Kv.e n) Kv.ws:=L2.ok f29 Kv n C62 (hT:=λm _=>.m1 (K62 m))
theorem UC:iJ TZp f29 (Ku.e n) Ku.ws:=L2.ok f29 Ku n C62 (hT:=λm _=>.m1 (K62 m))
abbrev C63:List aS:=⟨29,[.agg [.sl,.int .i64]],[aq],λx=>oe n x⟩::C62 n
theorem K63:aC TZp (C63 n):=.cons (aY f29 (C62 n) (ll:=[Ku.e n,Kv.e n]) (js:=afR n) (hT:=⟨.nil,K62 n,.nil,(.cc (UC n) (.cc (UB n) .nil)),(.cc .nil)⟩)) (K62 n)
structure bz where
 gV:Int->Addr->Addr->Sl->Int->Int->M Unit
 gW:Addr->Sl->Int->Int->M Unit
 gp:Int->Addr->Addr->Addr->M Unit
def ja (G:bz)(n:Nat)(x:ξ)(a0:Int):M Unit:=if pG pq x then sh (nU [aG,aG,aG] x) λ(c:Addr×Addr×Addr)=>G.gp a0 c.1 c.2.1 c.2.2 else AS
abbrev oS:=ja
def pP (G:bz)(n:Nat)(a0:Int)(a1 a2:Addr)(a3:Sl)(a4 a5:Int):M Unit:=if decide (a5<a4) then L12 a3 a5 1 λx0=>L10 x0 λx1=>L18 a2 λx2=>sh (ja G n x2 x1) λx3=>G.gV a0 a1 a2 a3 a4 (i64.wrap (a5+1)) else AI ()
def pQ (G:bz)(n:Nat)(a0:Addr)(a1:Sl)(a2 a3:Int):M Unit:=if decide (a3<a2) then L12 a1 a3 1 λx0=>L10 x0 λx1=>L18 a0 λx2=>sh (oS G n x2 x1) λx3=>G.gW a0 a1 a2 (i64.wrap (a3+1)) else AI ()
def tI (G:bz)(n:Nat)(a0:Int)(a1 a2 a3:Addr):M Unit:=L15 a1 λx0=>L12 x0 a0 1 λx1=>L19 x1 λx2=>if x2 then AI () else L15 a1 λx3=>L12 x3 a0 1 λx4=>sh (bD x4 [.bool true]) λx5=>L15 (a2.plus 0) λx6=>L12 x6 a0 5 λx7=>L15 (x7.plus 3) λx8=>sh (G.gV a0 a2 a3 x8 (↑x8.len:Int) 0) λx9=>L15 (a2.plus 0) λx10=>L12 x10 a0 5 λx11=>L15 (x11.plus 4) λx12=>sh (G.gW a3 x12 (↑x12.len:Int) 0) λx13=>AI ()
def bz.at:Nat->bz|0=>⟨λ_ _ _ _ _ _=>AS,λ_ _ _ _=>AS,λ_ _ _ _=>AS⟩|n+1=>⟨pP (bz.at n) n,pQ (bz.at n) n,tI (bz.at n) n⟩
def gV:=(bz.at n).gV
theorem yO:gV (n+1)=pP (bz.at n) n:=rfl
def gW:=(bz.at n).gW
theorem yP:gW (n+1)=pQ (bz.at n) n:=rfl
def gp:=(bz.at n).gp
theorem BA:gp (n+1)=tI (bz.at n) n:=rfl
def Cr:=ja (bz.at n) n
def Cs:=oS (bz.at n) n
abbrev RX:aS:=⟨40,[aq,aG,aG,aG],[],υ4 (gp n)⟩
abbrev Kw:L1:=⟨[0,1,0,1,1],[(0,aq),(2,aG),(3,aG),(21,bU),(22,aq),(23,aq)],[],[6]++List.range' 23 8,0,λn=>υ6 (gV n)⟩
abbrev Kx:L1:=⟨[0,1,1,1,1],[(3,aG),(36,bU),(37,aq),(38,aq)],[],[8]++List.range' 38 8,2,λn=>υ4 (gW n)⟩
abbrev C64:List aS:=RX n::C63 n
abbrev Ky:List jV:=[⟨27,[aq],[],λx a=>Cr n x a⟩, ⟨42,[aq],[],λx a=>Cs n x a⟩]
def ki:Prop:=aF TZp (RX n)
theorem RY (H:ki n):aC TZp (C64 n):=.cons H (K63 n)
theorem PX (H:ki n):qc TZp (Ky n):=.cons (dB (l:=[⟨40,[aG,aG,aG],λa c=>gp n a c.1 c.2.1 c.2.2⟩]) (.cons (λa c=>aL (by kernel_rfl) ((H) (a,c.1,c.2.1,c.2.2))) .nil) (λx a=>by kernel_rfl)) (.cons (dB (l:=[⟨40,[aG,aG,aG],λa c=>gp n a c.1 c.2.1 c.2.2⟩]) (.cons (λa c=>aL (by kernel_rfl) ((H) (a,c.1,c.2.1,c.2.2))) .nil) (λx a=>by kernel_rfl)) .nil)
theorem UD (H:∀m,m<n->ki m):iJ TZp f40 (Kw.e n) Kw.ws:=L1.ok f40 Kw n C64 (dt:=Ky) (hT:=λm hm=>⟨.nil,RY m (H m hm),(PX m (H m hm)),.nil,.nil⟩)
theorem UE (H:∀m,m<n->ki m):iJ TZp f40 (Kx.e n) Kx.ws:=L1.ok f40 Kx n C64 (dt:=Ky) (hT:=λm hm=>⟨.nil,RY m (H m hm),(PX m (H m hm)),.nil,.nil⟩)
theorem yQ (H:∀m,m<n+1->ki m):aF TZp (RX (n+1)):=aY f40 (C64 n) (dl:=Ky n) (ll:=[Kw.e n,Kx.e n]) (hT:=⟨.nil,RY n (H n (aad n)),(PX n (H n (aad n))),(.cc (UD n (λk hk=>H k (acy hk))) (.cc (UE n (λk hk=>H k (acy hk))) .nil)),.nil⟩)
theorem tZ:∀n m,m<n->ki m:=by
 intro n
 induction n with
 |zero=>intro m hm;exact absurd hm (aji m)
 |succ n ih=>
  intro m hm;cases m with
  |zero=>exact gr (fn:=f40) (by kernel_rfl) (by kernel_rfl) (by kernel_rfl) (λ_=>rfl)
  |succ k=>exact yQ k λm hm=>ih m (by omega)
theorem DK:aF TZp (RX n):=(tZ (n+1) n (aad n))
theorem K64:aC TZp (C64 n):=RY n (tZ (n+1) n (aad n))
def tJ (x:ξ)(a0:Int):M Unit:=if pG pq x then sh (nU [aG,aG,aG] x) λ(c:Addr×Addr×Addr)=>gp n a0 c.1 c.2.1 c.2.2 else AS
def sr (G:τ33)(n:Nat):τ33:=λa0 a1 a2 a3 a4 a5 a6 a7=>if decide (a7<a6) then L12 a5 a7 1 λx0=>L10 x0 λx1=>L18 a1 λx2=>sh (tJ n x2 x1) λx3=>G a0 a1 a2 a3 a4 a5 a6 (i64.wrap (a7+1)) else AI ()
def lQ:=lp0 sr
theorem AK:lQ (n+1)=sr (lQ n) n:=rfl
def su (G:τ34)(n:Nat):τ34:=λa0 a1 a2 a3 a4=>if decide (a4<a3) then L12 a2 a4 5 λx0=>L16 x0 λx1=>L17 λx2=>sh (bD (ai x2) [vi x1.1,.string x1.2.1,.bool x1.2.2.1,aM x1.2.2.2.1,aM x1.2.2.2.2]) λx3=>L15 ((ai x2).plus 3) λx4=>sh (lQ n a0 a1 a2 a3 a4 x4 (↑x4.len:Int) 0) λx5=>G a0 a1 a2 a3 (i64.wrap (a4+1)) else AI ()
def lR:=lp0 su
theorem AL:lR (n+1)=su (lR n) n:=rfl
def vO (a0:Sl×Int):M Sl:=sh (aJ none ao [aM a0.1,vi a0.2]) λx0=>L15 ((ai x0).plus 0) λx1=>sh (vG none nV [.bool false] (↑x1.len:Int) (↑x1.len:Int)) λx2=>sh (aJ none uH [bF]) λx3=>sh (bD (ai x3) [aM x2]) λx4=>L20 λx5=>sh (bD (ai x5) [.func (Fn.func pq) #[] #[.pointer (some (ai x3)),.pointer (some (ai x0)),.pointer (some (ai x5))]]) λx6=>L15 ((ai x0).plus 0) λx7=>sh (lR n (ai x3) (ai x5) x7 (↑x7.len:Int) 0) λx8=>L15 (ai x3) λx9=>AI x9
abbrev Kz:L1:=⟨[0,1,0,1,1,1,1],[(3,aG),(4,aG),(15,bU),(16,aq),(17,aq)],[],[6,8]++List.range' 17 16,0,λn=>υ5 (lR n)⟩
abbrev KA:L1:=⟨[0,1,1,0,0,1,1,0,0,1,0,1,1,1,1],[(3,aG),(4,aG),(15,bU),(16,aq),(17,aq),(22,bU),(23,aq),(24,aq)],[],[8]++List.range' 24 8,2,λn=>υ8 (lQ n)⟩
abbrev KB:List jV:=[⟨28,[aq],[],λx a=>tJ n x a⟩]
theorem PY:qc TZp (KB n):=.cons (dB (l:=[⟨40,[aG,aG,aG],λa c=>gp n a c.1 c.2.1 c.2.2⟩]) (.cons (λa c=>aL (by kernel_rfl) ((DK n) (a,c.1,c.2.1,c.2.2))) .nil) (λx a=>by kernel_rfl)) .nil
theorem UF:iJ TZp f30 (KA.e n) KA.ws:=L1.ok f30 KA n C64 (dt:=KB) (hT:=λm _=>⟨.nil,K64 m,(PY m),.nil,.nil⟩)
theorem UG:iJ TZp f30 (Kz.e n) Kz.ws:=L1.ok f30 Kz n C64 (dt:=KB) (lt:=λn=>[KA.e n]) (hT:=λm _=>⟨.nil,K64 m,(PY m),(.cc (UF m) .nil),.nil⟩)
abbrev C65:List aS:=⟨30,[.agg [.sl,.int .i64]],[bU],λx=>vO n x⟩::C64 n
theorem K65:aC TZp (C65 n):=.cons (aY f30 (C64 n) (dl:=KB n) (ll:=[Kz.e n]) (hT:=⟨.nil,K64 n,(PY n),(.cc (UG n) .nil),.nil⟩)) (K64 n)
def nB (G:τ35)(n:Nat):τ35:=λa0 a1 a2 a3 a4 a5 a6 a7 a8 a9 a10 a11=>if decide (a11<a10) then L12 a9 a11 1 λx0=>L10 x0 λx1=>L15 (a0.plus 4) λx2=>L12 x2 x1 9 λx3=>L10 (x3.plus 2) λx4=>L12 a5 x4 1 λx5=>L19 x5 λx6=>if x6 then AI (Sum.inr false) else L15 (a0.plus 4) λx7=>L12 x7 x1 9 λx8=>L10 (x8.plus 2) λx9=>L12 a5 x9 1 λx10=>sh (bD x10 [.bool true]) λx11=>G a0 a1 a2 a3 a4 a5 a6 a7 a8 a9 a10 (i64.wrap (a11+1)) else AI (Sum.inl ())
def gF:=lp0 nB
theorem wA:gF (n+1)=nB (gF n) n:=rfl
def nC (G:τ36)(n:Nat):τ36:=λa0 a1 a2 a3=>if decide (a3<a2) then L12 a1 a3 1 λx0=>L19 x0 λx1=>if !x1 then L12 a0 a3 1 λx2=>L10 x2 λx3=>if !decide (x3=1) then AI (Sum.inr false) else if x1 then L12 a0 a3 1 λx4=>L10 x4 λx5=>if !decide (x5=0) then AI (Sum.inr false) else G a0 a1 a2 (i64.wrap (a3+1)) else G a0 a1 a2 (i64.wrap (a3+1)) else if x1 then L12 a0 a3 1 λx2=>L10 x2 λx3=>if !decide (x3=0) then AI (Sum.inr false) else G a0 a1 a2 (i64.wrap (a3+1)) else G a0 a1 a2 (i64.wrap (a3+1)) else AI (Sum.inl ())
def gG:=lp0 nC
theorem wB:gG (n+1)=nC (gG n) n:=rfl
def nD (G:τ37)(n:Nat):τ37:=λa0 a1 a2 a3 a4 a5 a6=>if decide (a6<a5) then L12 a4 a6 9 λx0=>L13 x0 λx1=>L14 λx2=>sh (bD (ai x2) (V10 x1)) λx3=>L19 ((ai x2).plus 7) λx4=>if x4 then G a0 a1 a2 a3 a4 a5 (i64.wrap (a6+1)) else L10 ((ai x2).plus 0) λx5=>L12 a2 x5 1 λx6=>L10 x6 λx7=>L12 a2 x5 1 λx8=>sh (bD x8 [vi (i64.wrap (x7+1))]) λx9=>L15 (a1.plus 0) λx10=>L10 ((ai x2).plus 0) λx11=>L12 x10 x11 5 λx12=>L15 (x12.plus 4) λx13=>sh (vG none nV [.bool false] (↑x13.len:Int) (↑x13.len:Int)) λx14=>sh (rK ar (Ty.one .sl) uV a3 (vi a6)) λ(x15:Bool×Sl)=>sh (gF n a0 a1 a2 a3 a6 x14 a4 a5 a6 x15.2 (↑x15.2.len:Int) 0) (bu (λx16=>sh (rK ar (Ty.one .sl) uV a3 (vi a6)) λ(x17:Bool×Sl)=>if !decide ((↑x17.2.len:Int)=(↑x14.len:Int)) then AI (Sum.inr false) else G a0 a1 a2 a3 a4 a5 (i64.wrap (a6+1))) (λx16=>AI (Sum.inr x16))) else AI (Sum.inl ())
def fq:=lp0 nD
theorem wC:fq (n+1)=nD (fq n) n:=rfl
def kS (G:Addr->Addr->Sl->Int->Int->M (Unit⊕Bool))(n:Nat)(a0 a1 a2:Addr)(a3:Sl)(a4 a5:Int):M (Unit⊕Bool):=L15 (a1.plus 0) λx0=>L15 (a0.plus 4) λx1=>L10 (a2.plus 1) λx2=>L12 x1 x2 9 λx3=>L10 (x3.plus 0) λx4=>L12 x0 x4 5 λx5=>L15 (x5.plus 4) λx6=>L10 (a2.plus 2) λx7=>if decide (x7<0) then AI (Sum.inr false) else L10 (a2.plus 2) λx8=>if decide ((↑x6.len:Int)<=x8) then AI (Sum.inr false) else L10 (a2.plus 0) λx9=>L10 (a2.plus 2) λx10=>L12 x6 x10 1 λx11=>L10 x11 λx12=>if !decide (x9=x12) then AI (Sum.inr false) else G a0 a1 a3 a4 (i64.wrap (a5+1))
def nE (G:τ38)(n:Nat):τ38:=λa0 a1 a2 a3 a4=>if decide (a4<a3) then L12 a2 a4 9 λx0=>L13 x0 λx1=>L14 λx2=>sh (bD (ai x2) (V10 x1)) λx3=>L10 ((ai x2).plus 1) λx4=>if decide (x4<0) then AI (Sum.inr false) else L10 ((ai x2).plus 1) λx5=>if decide (a4<x5) then AI (Sum.inr false) else L15 (a0.plus 4) λx6=>L10 ((ai x2).plus 1) λx7=>L12 x6 x7 9 λx8=>L19 (x8.plus 7) λx9=>if x9 then AI (Sum.inr false) else kS G n a0 a1 (ai x2) a2 a3 a4 else AI (Sum.inl ())
def ft:=lp0 nE
theorem wD:ft (n+1)=nE (ft n) n:=rfl
def xV:=kS (ft n) n
def oT (a0 a1:Addr):M Bool:=L15 (a0.plus 4) λx0=>sh (jT x0 1 (↑x0.len:Int) bJ 9) λx1=>sh (ft n a0 a1 x1 (↑x1.len:Int) 0) (bu (λx2=>L15 (a1.plus 0) λx3=>sh (vG none ar [vi 0] (↑x3.len:Int) (↑x3.len:Int)) λx4=>L31 a0 λx5=>sh (kO n x5) λx6=>L15 (a0.plus 4) λx7=>sh (fq n a0 a1 x4 x6 x7 (↑x7.len:Int) 0) (bu (λx8=>L28 a1 λx9=>sh (vO n x9) λx10=>sh (gG n x4 x10 (↑x10.len:Int) 0) (bu (λx11=>AI true) (λx11=>AI x11))) (λx8=>AI x8))) (λx2=>AI x2))
def oU (a0 a1:Addr):M Bool:=L15 (a0.plus 4) λx0=>L12 x0 0 9 λx1=>L13 x1 λx2=>L14 λx3=>sh (bD (ai x3) (V10 x2)) λx4=>L10 ((ai x3).plus 0) λx5=>L10 (a1.plus 1) λx6=>if !decide (x5=x6) then AI false else L10 ((ai x3).plus 1) λx7=>if !decide (x7=-1) then AI false else L10 ((ai x3).plus 2) λx8=>if !decide (x8=0) then AI false else L19 ((ai x3).plus 7) λx9=>if x9 then AI false else oT n a0 a1
def oK (a0:Int×ζ×Sl×Int×Sl×Sl):M Bool:=sh (aJ none fI [vi a0.1,.string a0.2.1,aM a0.2.2.1,vi a0.2.2.2.1,aM a0.2.2.2.2.1,aM a0.2.2.2.2.2]) λx0=>L28 ((ai x0).plus 2) λx1=>L32 λx2=>sh (bD (ai x2) [aM x1.1,vi x1.2]) λx3=>L28 (ai x2) λx4=>sh (oe n x4) λx5=>if !decide (x5=0) then AI false else L15 ((ai x0).plus 4) λx6=>if decide ((↑x6.len:Int)=0) then AI false else oU n (ai x0) (ai x2)
abbrev KC:L2:=⟨[0,1,0,1,1,1,1,1],[(1,aG),(3,aG),(53,bU),(54,aq),(55,aq)],[],[(2,hS)],[2,5,6,7]++List.range' 55 56,0,.ret,λn=>υ5 (ft n)⟩
abbrev KD:L2:=⟨[0,1,0,1,1,1,1,1,1,1,1],[(1,aG),(3,aG),(8,bU),(9,OX),(118,bU),(119,aq),(120,aq)],[],[(2,hS)],[2,10,11,12,14]++List.range' 120 57,2,.ret,λn=>υ7 (fq n)⟩
abbrev KE:L2:=⟨[0,1,0,1,1,1,1,0,0,1,1,0,0,1,0,1,1,1,1,1,1,1,1],[(1,aG),(3,aG),(8,bU),(9,OX),(10,aq),(12,bU),(118,bU),(119,aq),(120,aq),(145,bU),(146,aq),(147,aq)],[],[(2,hS)],[2,14]++List.range' 147 22,4,.ret,λn=>υ12 (gF n)⟩
abbrev KG:L2:=⟨[0,1,0,1,1,1,1,1,1,1,1,1],[(8,bU),(178,bU),(179,aq),(180,aq)],[],[(2,hS)],[2,15,16]++List.range' 180 25,6,.ret,λn=>υ4 (gG n)⟩
def G7 (i:Nat):Option (List (Nat×η)):=Κ i 12 (Ω [0,2,4,1,3,5,6,7,8,9,10,11,12]) (Κ i 13 (Ω [0,1,2,3,4,6,7,5,8,9,10,11,13,14,12,15,16,17,18,19]) none)
abbrev UH:List (fT (Unit⊕Bool)):=[⟨[0,1,1,0,0,1,1,0,0,1,0,1,1,1,1,1],[.code [1,1,1,0,0,1,1,0,0,1,0,1,1,1,1,1],.av 1,.code [1,1,1,0,0,1,0,1,1,1,1,1]],[(1,aG),(3,aG),(6,aG),(53,bU),(54,aq),(55,aq)],υ6 (xV n)⟩]
abbrev afT:List (fT Bool):=[⟨[0,1,1,1],[.code [1,1,1,1]],[(1,aG),(3,aG)],υ2 (oU n)⟩, ⟨[0,0,1,1,1,1,1],[.code [1,0,1,1,1,1,1],.code [1,1,1,1,1,1]],[(1,aG),(3,aG)],υ2 (oT n)⟩]
theorem UI:iJ TZp f19 (KE.e n) KE.ws:=L2.ok f19 KE n C65 (dr:=G7) (hT:=λm _=>.m1 (K65 m))
theorem UJ:iJ TZp f19 (KG.e n) KG.ws:=L2.ok f19 KG n C65 (dr:=G7) (hT:=λm _=>.m1 (K65 m))
theorem UK:iJ TZp f19 (KD.e n) KD.ws:=L2.ok f19 KD n C65 (lt:=λn=>[KE.e n]) (dr:=G7) (hT:=λm _=>⟨.nil,K65 m,.nil,(.cc (UI m) .nil),.nil⟩)
theorem UL:iJ TZp f19 (KC.e n) KC.ws:=L2.ok f19 KC n C65 (dr:=G7) (jt:=UH) (hT:=λm _=>⟨.nil,K65 m,.nil,.nil,(.cc .nil)⟩)
abbrev C66:List aS:=⟨19,[.agg [.int .i64,.str,.sl,.int .i64,.sl,.sl]],[hS],λx=>oK n x⟩::C65 n
theorem K66:aC TZp (C66 n):=.cons (aY f19 (C65 n) (ll:=[KC.e n,KD.e n,KG.e n]) (dr:=G7) (js:=afT n) (hT:=⟨.nil,K65 n,.nil,(.cc (UL n) (.cc (UK n) (.cc (UJ n) .nil))),(.cc (.cc .nil))⟩)) (K65 n)
def qJ (a0:Addr):M (Bool×Int):=L31 a0 λx0=>sh (oK n x0) λx1=>AI (x1,3)
abbrev aed:aS:=⟨18,[aG],[hS,aq],λx=>qJ n x⟩
theorem yw:aF TZp (aed n):=aY f18 (C66 n) (hT:=.m1 (K66 n))
abbrev C67:List aS:=aed n::C66 n
theorem K67:aC TZp (C67 n):=.cons (yw n) (K66 n)
def sv (G:τ39)(n:Nat):τ39:=λa0 a1 a2 a3 a4 a5=>if decide (a5<a4) then L12 a3 a5 3 λx0=>sh (aE [li,li,.str] x0) λ(x1:Int×Int×ζ)=>sh (aJ none PD [vi 0,vi 0,.string (ofBytes [])]) λx2=>sh (bD (ai x2) [vi x1.1,vi x1.2.1,.string x1.2.2]) λx3=>L10 ((ai x2).plus 0) λx4=>if decide (x4<a2) then AI (Sum.inr false) else L10 ((ai x2).plus 0) λx5=>L10 ((ai x2).plus 1) λx6=>if decide (x6<=x5) then AI (Sum.inr false) else L10 ((ai x2).plus 1) λx7=>if decide (a1<x7) then AI (Sum.inr false) else L11 ((ai x2).plus 2) λx8=>L11 (a0.plus 1) λx9=>L10 ((ai x2).plus 0) λx10=>L10 ((ai x2).plus 1) λx11=>sh (hY x9 x10 x11) λx12=>if !mY x8 x12 then AI (Sum.inr false) else L10 ((ai x2).plus 1) λx13=>G a0 a1 x13 a3 a4 (i64.wrap (a5+1)) else AI (Sum.inl ())
def lS:=lp0 sv
theorem AN:lS (n+1)=sv (lS n) n:=rfl
def jb (G:Addr->Int->Sl->Int->Int->M (Unit⊕Bool))(n:Nat)(a0:Addr)(a1:Int)(a2:Addr)(a3:Bool)(a4:Sl)(a5 a6:Int):M (Unit⊕Bool):=if !a3 then L10 (a2.plus 5) λx0=>if !decide (x0=0) then AI (Sum.inr false) else L10 (a2.plus 6) λx1=>if !decide (x1=0) then AI (Sum.inr false) else G a0 a1 a4 a5 (i64.wrap (a6+1)) else G a0 a1 a4 a5 (i64.wrap (a6+1))
def oV (G:Addr->Int->Sl->Int->Int->M (Unit⊕Bool))(n:Nat)(a0:Addr)(a1:Int)(a2:Addr)(a3:Sl)(a4 a5:Int):M (Unit⊕Bool):=L10 (a2.plus 1) λx0=>if decide (0<=x0) then L15 ((a0.plus 2).plus 0) λx1=>L15 (a0.plus 4) λx2=>L10 (a2.plus 1) λx3=>L12 x2 x3 9 λx4=>L10 (x4.plus 0) λx5=>L12 x1 x5 5 λx6=>L10 (x6.plus 0) λx7=>jb G n a0 a1 a2 (decide (x7=10)) a3 a4 a5 else jb G n a0 a1 a2 false a3 a4 a5
def sw (G:τ40)(n:Nat):τ40:=λa0 a1 a2 a3 a4=>if decide (a4<a3) then L12 a2 a4 9 λx0=>L13 x0 λx1=>L14 λx2=>sh (bD (ai x2) (V10 x1)) λx3=>L10 ((ai x2).plus 3) λx4=>if decide (x4<0) then AI (Sum.inr false) else L10 ((ai x2).plus 3) λx5=>L10 ((ai x2).plus 4) λx6=>if decide (x6<x5) then AI (Sum.inr false) else L10 ((ai x2).plus 4) λx7=>if decide (a1<x7) then AI (Sum.inr false) else L10 ((ai x2).plus 5) λx8=>if decide (x8<0) then AI (Sum.inr false) else L10 ((ai x2).plus 5) λx9=>L10 ((ai x2).plus 6) λx10=>if decide (x10<x9) then AI (Sum.inr false) else L10 ((ai x2).plus 6) λx11=>if decide (a1<x11) then AI (Sum.inr false) else oV G n a0 a1 (ai x2) a2 a3 a4 else AI (Sum.inl ())
def fN:=lp0 sw
theorem AO:fN (n+1)=sw (fN n) n:=rfl
def Ct:=oV (fN n) n
def Cu:=jb (fN n) n
def vP (a0:Int×ζ×Sl×Int×Sl×Sl):M Bool:=sh (aJ none fI [vi a0.1,.string a0.2.1,aM a0.2.2.1,vi a0.2.2.2.1,aM a0.2.2.2.2.1,aM a0.2.2.2.2.2]) λx0=>L11 ((ai x0).plus 1) λx1=>L15 ((ai x0).plus 4) λx2=>sh (fN n (ai x0) (↑(ByteArray.size x1):Int) x2 (↑x2.len:Int) 0) (bu (λx3=>L15 ((ai x0).plus 5) λx4=>sh (lS n (ai x0) (↑(ByteArray.size x1):Int) 0 x4 (↑x4.len:Int) 0) (bu (λx5=>AI true) (λx5=>AI x5))) (λx3=>AI x3))
abbrev KH:L2:=⟨[0,1,0,1,1],[(1,aG),(3,aq),(14,bU),(15,aq),(16,aq)],[],[(2,hS)],[2,5,6]++List.range' 16 70,0,.ret,λn=>υ5 (fN n)⟩
abbrev KI:L2:=⟨[0,1,0,1,1,1,1],[(1,aG),(3,aq),(7,aq),(87,bU),(88,aq),(89,aq)],[],[(2,hS)],[2,7,9]++List.range' 89 36,2,.ret,λn=>υ6 (lS n)⟩
def PZ (i:Nat):Option (List (Nat×η)):=Κ i 7 (Ω [0,1,2,3,4,5,7,9,6,8,10,11,12,13,14,15,16,17,18,19]) (Κ i 15 (Ω [0,2,1,3,4,5,7,6,8,9,10,11,12,14,13,15,16,17,18,20,22,24,19,21,23,25,26,27,28]) none)
abbrev UM:List (fT (Unit⊕Bool)):=[⟨[0,1,1,0,0,1,1,0,0,1,0,1,1],[.code [1,1,1,0,0,1,1,0,0,1,0,1,1],.av 1,.code [1,1,1,0,0,1,0,1,1]],[(1,aG),(3,aq),(5,aG),(14,bU),(15,aq),(16,aq)],υ6 (Ct n)⟩, ⟨[0,1,1,1,0,0,1,1,0,0,1,0,1,1],[.code [1,1,1,1,0,0,1,1,0,0,1,0,1,1],.av 1,.code [1,1,1,0,0,1,0,1,1]],[(1,aG),(3,aq),(5,aG),(6,hS),(14,bU),(15,aq),(16,aq)],υ7 (Cu n)⟩]
theorem UN:iJ TZp f21 (KI.e n) KI.ws:=L2.ok f21 KI n C67 (dr:=PZ) (hT:=λm _=>.m1 (K67 m))
theorem UO:iJ TZp f21 (KH.e n) KH.ws:=L2.ok f21 KH n C67 (dr:=PZ) (jt:=UM) (hT:=λm _=>⟨.nil,K67 m,.nil,.nil,(.cc (.cc .nil))⟩)
abbrev C68:List aS:=⟨21,[.agg [.int .i64,.str,.sl,.int .i64,.sl,.sl]],[hS],λx=>vP n x⟩::C67 n
theorem K68:aC TZp (C68 n):=.cons (aY f21 (C67 n) (ll:=[KH.e n,KI.e n]) (dr:=PZ) (hT:=⟨.nil,K67 n,.nil,(.cc (UO n) (.cc (UN n) .nil)),.nil⟩)) (K67 n)
def qK (a0:Addr):M (Bool×Int):=L31 a0 λx0=>sh (vP n x0) λx1=>AI (x1,2)
abbrev aef:aS:=⟨20,[aG],[hS,aq],λx=>qK n x⟩
theorem yx:aF TZp (aef n):=aY f20 (C68 n) (hT:=.m1 (K68 n))
abbrev C69:List aS:=aef n::C68 n
theorem K69:aC TZp (C69 n):=.cons (yx n) (K68 n)
def qL (G:τ22)(n:Nat):τ22:=λa0 a1 a2 a3 a4=>if decide (a4<a3) then L12 a2 a4 1 λx0=>L10 x0 λx1=>L15 (a0.plus 4) λx2=>L12 x2 x1 9 λx3=>L10 (x3.plus 2) λx4=>L12 a1 x4 1 λx5=>sh (bD x5 [vi x1]) λx6=>G a0 a1 a2 a3 (i64.wrap (a4+1)) else AI ()
def kj:=lp0 qL
theorem zI:kj (n+1)=qL (kj n) n:=rfl
def qM (a0:Int×ζ×Sl×Int×Sl×Sl)(a1:Sl):M Sl:=sh (aJ none fI [vi a0.1,.string a0.2.1,aM a0.2.2.1,vi a0.2.2.2.1,aM a0.2.2.2.2.1,aM a0.2.2.2.2.2]) λx0=>sh (vG none ar [vi 0] (↑a1.len:Int) (↑a1.len:Int)) λx1=>sh (kj n (ai x0) x1 a1 (↑a1.len:Int) 0) λx2=>AI x1
abbrev KJ:L1:=⟨[0,1,0,1,1],[(2,aG),(5,bU),(11,bU),(12,aq),(13,aq)],[],[7]++List.range' 13 14,0,λn=>υ5 (kj n)⟩
theorem UP:iJ TZp f27 (KJ.e n) KJ.ws:=L1.ok f27 KJ n C69 (hT:=λm _=>.m1 (K69 m))
abbrev C70:List aS:=⟨27,[.agg [.int .i64,.str,.sl,.int .i64,.sl,.sl],bU],[bU],υ2 (qM n)⟩::C69 n
theorem K70:aC TZp (C70 n):=.cons (aY f27 (C69 n) (ll:=[KJ.e n]) (hT:=⟨.nil,K69 n,.nil,(.cc (UP n) .nil),.nil⟩)) (K69 n)
def sx (G:τ41)(n:Nat):τ41:=λa0 a1 a2 a3 a4 a5 a6 a7 a8 a9 a10=>if decide (a10<a9) then L12 a8 a10 1 λx0=>L10 x0 λx1=>L15 (a0.plus 4) λx2=>L12 x2 x1 9 λx3=>L13 x3 λx4=>L14 λx5=>sh (bD (ai x5) (V10 x4)) λx6=>if a4 then L10 ((ai x5).plus 5) λx7=>if decide (x7<a3) then AI (Sum.inr false) else L10 ((ai x5).plus 6) λx8=>L10 ((ai x5).plus 3) λx9=>if decide (x9<x8) then AI (Sum.inr false) else L10 ((ai x5).plus 4) λx10=>G a0 a1 a2 x10 a4 a5 a6 a7 a8 a9 (i64.wrap (a10+1)) else L10 ((ai x5).plus 3) λx7=>if decide (x7<a3) then AI (Sum.inr false) else L10 ((ai x5).plus 4) λx8=>G a0 a1 a2 x8 a4 a5 a6 a7 a8 a9 (i64.wrap (a10+1)) else AI (Sum.inl a3)
def jJ:=lp0 sx
theorem AP:jJ (n+1)=sx (jJ n) n:=rfl
def oW (G:Addr->μ->Sl->Int->Int->M (Unit⊕Bool))(n:Nat)(a0:Addr)(a1:μ)(a2:Int)(a3:Addr)(a4:Sl)(a5 a6:Int):M (Unit⊕Bool):=L10 (a3.plus 3) λx0=>L15 ((a0.plus 2).plus 0) λx1=>L10 (a3.plus 0) λx2=>L12 x1 x2 5 λx3=>L10 (x3.plus 0) λx4=>L31 a0 λx5=>sh (rK ar (Ty.one .sl) uV a1 (vi a2)) λ(x6:Bool×Sl)=>sh (qM n x5 x6.2) λx7=>sh (jJ n a0 a1 a3 x0 (decide (x4=10)) a4 a5 a6 x7 (↑x7.len:Int) 0) (bu (λx8=>L10 (a3.plus 4) λx9=>if decide (x9<x8) then AI (Sum.inr false) else G a0 a1 a4 a5 (i64.wrap (a6+1))) (λx8=>AI (Sum.inr x8)))
def sy (G:τ42)(n:Nat):τ42:=λa0 a1 a2 a3 a4=>if decide (a4<a3) then L12 a2 a4 9 λx0=>L13 x0 λx1=>L14 λx2=>sh (bD (ai x2) (V10 x1)) λx3=>L19 ((ai x2).plus 8) λx4=>if !x4 then G a0 a1 a2 a3 (i64.wrap (a4+1)) else L19 ((ai x2).plus 7) λx5=>if x5 then G a0 a1 a2 a3 (i64.wrap (a4+1)) else oW G n a0 a1 a4 (ai x2) a2 a3 a4 else AI (Sum.inl ())
def ij:=lp0 sy
theorem AQ:ij (n+1)=sy (ij n) n:=rfl
def Cv:=oW (ij n) n
def vQ (a0:Int×ζ×Sl×Int×Sl×Sl):M Bool:=sh (aJ none fI [vi a0.1,.string a0.2.1,aM a0.2.2.1,vi a0.2.2.2.1,aM a0.2.2.2.2.1,aM a0.2.2.2.2.2]) λx0=>L31 (ai x0) λx1=>sh (kO n x1) λx2=>L15 ((ai x0).plus 4) λx3=>sh (ij n (ai x0) x2 x3 (↑x3.len:Int) 0) (bu (λx4=>AI true) (λx4=>AI x4))
abbrev KK:L2:=⟨[0,1,0,1,1],[(1,aG),(3,OX),(14,bU),(15,aq),(16,aq)],[],[(2,hS)],[2,4,5,6,7,9,10]++List.range' 16 57,0,.ret,λn=>υ5 (ij n)⟩
abbrev KM:L2:=⟨[0,1,0,1,1,1,1,0,0,1,1,0,0,1,0,1,1],[(1,aG),(3,OX),(5,aG),(6,aq),(7,hS),(14,bU),(15,aq),(16,aq),(43,bU),(44,aq),(45,aq)],[(6,aq)],[(2,hS)],[2,6,9,10]++List.range' 45 23,2,.ret,λn=>υ11 (jJ n)⟩
abbrev UQ:List (fT (Unit⊕Bool)):=[⟨[0,1,1,0,0,1,1,0,0,1,0,1,1],[.code [1,1,1,0,0,1,1,0,0,1,0,1,1],.av 1,.code [1,1,1,0,0,1,0,1,1]],[(1,aG),(3,OX),(4,aq),(5,aG),(14,bU),(15,aq),(16,aq)],υ7 (Cv n)⟩]
theorem UR:iJ TZp f23 (KM.e n) KM.ws:=L2.ok f23 KM n C70 (hT:=λm _=>.m1 (K70 m))
theorem US:iJ TZp f23 (KK.e n) KK.ws:=L2.ok f23 KK n C70 (lt:=λn=>[KM.e n]) (jt:=UQ) (hT:=λm _=>⟨.nil,K70 m,.nil,(.cc (UR m) .nil),(.cc .nil)⟩)
abbrev C71:List aS:=⟨23,[.agg [.int .i64,.str,.sl,.int .i64,.sl,.sl]],[hS],λx=>vQ n x⟩::C70 n
theorem K71:aC TZp (C71 n):=.cons (aY f23 (C70 n) (ll:=[KK.e n]) (hT:=⟨.nil,K70 n,.nil,(.cc (US n) .nil),.nil⟩)) (K70 n)
def qN (a0:Addr):M (Bool×Int):=L31 a0 λx0=>sh (vQ n x0) λx1=>AI (x1,17)
abbrev aei:aS:=⟨22,[aG],[hS,aq],λx=>qN n x⟩
theorem yy:aF TZp (aei n):=aY f22 (C71 n) (hT:=.m1 (K71 n))
abbrev C72:List aS:=aei n::C71 n
theorem K72:aC TZp (C72 n):=.cons (yy n) (K71 n)
end Go.Sh
