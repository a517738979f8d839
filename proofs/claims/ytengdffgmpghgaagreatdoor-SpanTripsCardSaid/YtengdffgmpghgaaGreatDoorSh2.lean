
import Derived.Test.YtengdffgmpghgaaGreatDoorSh1
set_option linter.all false
set_option maxRecDepth 100000
set_option maxHeartbeats 0
namespace Go.Sh
open Go Go.Ago Go.Proofs Go.IntKind Go.Proofs.Tryz
variable (n:Nat)
def vc (x:ξ):M (Bool×Int):=if pG jz x then sh (nU [aG] x) λ(c:Addr)=>qu n c else if pG jA x then sh (nU [aG] x) λ(c:Addr)=>qv n c else if pG jB x then sh (nU [aG] x) λ(c:Addr)=>qJ n c else if pG jC x then sh (nU [aG] x) λ(c:Addr)=>qK n c else if pG jD x then sh (nU [aG] x) λ(c:Addr)=>qN n c else AS
def pE (G:τ43)(n:Nat):τ43:=λa0 a1=>if decide (a1<5) then sh (HR .raw 5 [a0.1,a0.2.1,a0.2.2.1,a0.2.2.2.1,a0.2.2.2.2] a1) λx0=>sh (vc n x0) λx1=>if !x1.1 then AI (Sum.inr x1.2) else G a0 (i64.wrap (a1+1)) else AI (Sum.inl ())
def jq:=lp0 pE
theorem ve:jq (n+1)=pE (jq n) n:=rfl
def iQ (a0:Int×ζ×Sl×Int×Sl×Sl):M Int:=sh (aJ none fI [vi a0.1,.string a0.2.1,aM a0.2.2.1,vi a0.2.2.2.1,aM a0.2.2.2.2.1,aM a0.2.2.2.2.2]) λx0=>sh (aJ none wu [Value.nilFunc,Value.nilFunc,Value.nilFunc,Value.nilFunc,Value.nilFunc]) λx1=>sh (bD (ai x1) [.func (Fn.func jz) #[] #[.pointer (some (ai x0))],.func (Fn.func jA) #[] #[.pointer (some (ai x0))],.func (Fn.func jB) #[] #[.pointer (some (ai x0))],.func (Fn.func jC) #[] #[.pointer (some (ai x0))],.func (Fn.func jD) #[] #[.pointer (some (ai x0))]]) λx2=>sh (aE [.raw,.raw,.raw,.raw,.raw] (ai x1)) λ(x3:ξ×ξ×ξ×ξ×ξ)=>sh (jq n x3 0) (bu (λx4=>AI 0) (λx4=>AI x4))
abbrev aiv:aS:=⟨6,[.agg [.int .i64,.str,.sl,.int .i64,.sl,.sl]],[aq],λx=>iQ n x⟩
abbrev RZ:L2:=⟨[0,1,0,1,1],[(14,.agg [.raw,.raw,.raw,.raw,.raw]),(15,aq)],[],[(2,aq)],[2,5,6,7]++List.range' 15 12,0,.ret,λn=>υ2 (jq n)⟩
abbrev XJ:List jV:=[⟨19,[],[hS,aq],λx _=>vc n x⟩]
theorem aej:qc TZp (XJ n):=.cons (dB (l:=[⟨16,[aG],λ_ c=>qu n c⟩,⟨17,[aG],λ_ c=>qv n c⟩,⟨18,[aG],λ_ c=>qJ n c⟩,⟨20,[aG],λ_ c=>qK n c⟩,⟨22,[aG],λ_ c=>qN n c⟩]) (.cons (λa c=>aL (by kernel_rfl) ((yu n) c)) (.cons (λa c=>aL (by kernel_rfl) ((yv n) c)) (.cons (λa c=>aL (by kernel_rfl) ((yw n) c)) (.cons (λa c=>aL (by kernel_rfl) ((yx n) c)) (.cons (λa c=>aL (by kernel_rfl) ((yy n) c)) .nil))))) (λx a=>by kernel_rfl)) .nil
theorem XK:iJ TZp f6 (RZ.e n) RZ.ws:=L2.ok f6 RZ n C72 (dt:=XJ) (hT:=λm _=>⟨.nil,K72 m,(aej m),.nil,.nil⟩)
theorem A6:aF TZp (aiv n):=aY f6 (C72 n) (dl:=XJ n) (ll:=[RZ.e n]) (hT:=⟨.nil,K72 n,(aej n),(.cc (XK n) .nil),.nil⟩)
abbrev C73:List aS:=aiv n::C72 n
theorem K73:aC TZp (C73 n):=.cons (A6 n) (K72 n)
def qO (G:τ22)(n:Nat):τ22:=λa0 a1 a2 a3 a4=>if decide (a4<a3) then L12 a2 a4 1 λx0=>L10 x0 λx1=>L15 a0 λx2=>L12 x2 x1 1 λx3=>L10 x3 λx4=>L12 a1 a4 1 λx5=>sh (bD x5 [vi x4]) λx6=>G a0 a1 a2 a3 (i64.wrap (a4+1)) else AI ()
def ko:=lp0 qO
theorem zJ:ko (n+1)=qO (ko n) n:=rfl
def mF (a0:Sl)(a1:Addr):M Sl:=sh (vG none ar [vi 0] (↑a0.len:Int) (↑a0.len:Int)) λx0=>sh (ko n a1 x0 a0 (↑a0.len:Int) 0) λx1=>AI x0
abbrev aek:aS:=⟨52,[bU,aG],[bU],υ2 (mF n)⟩
abbrev KP:L1:=⟨[0,1,0,1,1],[(1,aG),(4,bU),(10,bU),(11,aq),(12,aq)],[],[5,6]++List.range' 12 13,0,λn=>υ5 (ko n)⟩
theorem UT:iJ TZp f52 (KP.e n) KP.ws:=L1.ok f52 KP n C73 (hT:=λm _=>.m1 (K73 m))
theorem tK:aF TZp (aek n):=aY f52 (C73 n) (ll:=[KP.e n]) (hT:=⟨.nil,K73 n,.nil,(.cc (UT n) .nil),.nil⟩)
abbrev C74:List aS:=aek n::C73 n
theorem K74:aC TZp (C74 n):=.cons (tK n) (K73 n)
def vf (x:ξ)(a0:Sl):M Sl:=if pG qs x then sh (nU [aG] x) λ(c:Addr)=>mF n a0 c else AS
def vg (x:ξ)(a0:Sl):M Sl:=if pG qs x then sh (nU [aG] x) λ(c:Addr)=>mF n a0 c else AS
def tL (G:τ44)(n:Nat):τ44:=λa0 a1 a2 a3 a4 a5 a6=>if decide (a6<a5) then L12 a4 a6 5 λx0=>L16 x0 λx1=>L17 λx2=>sh (bD (ai x2) [vi x1.1,.string x1.2.1,.bool x1.2.2.1,aM x1.2.2.2.1,aM x1.2.2.2.2]) λx3=>L12 a1 a6 1 λx4=>L19 x4 λx5=>if x5 then L15 ((ai x2).plus 3) λx6=>L15 ((ai x2).plus 4) λx7=>sh (oo [some ((ai x2).plus 4)] (vf n a3 x6)) λx8=>sh (vg n a3 x7) λx9=>sh (bD ((ai x2).plus 3) [aM x8]) λx10=>sh (bD ((ai x2).plus 4) [aM x9]) λx11=>L15 (a2.plus 0) λx12=>L16 (ai x2) λx13=>sh (app false x12 5 aW 1 [vi x13.1,.string x13.2.1,.bool x13.2.2.1,aM x13.2.2.2.1,aM x13.2.2.2.2]) λx14=>sh (bD (a2.plus 0) [aM x14]) λx15=>G a0 a1 a2 a3 a4 a5 (i64.wrap (a6+1)) else G a0 a1 a2 a3 a4 a5 (i64.wrap (a6+1)) else AI ()
def ni:=lp0 tL
theorem BB:ni (n+1)=tL (ni n) n:=rfl
def tM (G:τ45)(n:Nat):τ45:=λa0 a1 a2 a3 a4 a5 a6 a7=>if decide (a7<a6) then L12 a5 a7 1 λx0=>L19 x0 λx1=>L15 a3 λx2=>L12 x2 a7 1 λx3=>sh (bD x3 [vi a4]) λx4=>if x1 then G a0 a1 a2 a3 (i64.wrap (a4+1)) a5 a6 (i64.wrap (a7+1)) else G a0 a1 a2 a3 a4 a5 a6 (i64.wrap (a7+1)) else AI ()
def nj:=lp0 tM
theorem BC:nj (n+1)=tM (nj n) n:=rfl
def xW (a0:Sl×Int):M (Sl×Int):=sh (aJ none ao [aM a0.1,vi a0.2]) λx0=>L32 λx1=>L15 ((ai x0).plus 0) λx2=>sh (vG none nV [.bool false] (↑x2.len:Int) (↑x2.len:Int)) λx3=>L28 (ai x0) λx4=>L10 ((ai x0).plus 1) λx5=>sh (nf n x4 x5 x3) λx6=>L15 ((ai x0).plus 0) λx7=>sh (vG none ar [vi 0] (↑x7.len:Int) (↑x7.len:Int)) λx8=>L30 λx9=>sh (bD (ai x9) [aM x8]) λx10=>sh (nj n (ai x0) (ai x1) x3 (ai x9) 0 x3 (↑x3.len:Int) 0) λx11=>L15 (ai x9) λx12=>L10 ((ai x0).plus 1) λx13=>L12 x12 x13 1 λx14=>L10 x14 λx15=>L32 λx16=>sh (bD (ai x16) [bF,vi x15]) λx17=>L15 ((ai x0).plus 0) λx18=>sh (ni n (ai x1) x3 (ai x16) (Value.func (Fn.func qs) #[] #[.pointer (some (ai x9))]) x18 (↑x18.len:Int) 0) λx19=>L28 (ai x16) λx20=>sh (bD (ai x1) [aM x20.1,vi x20.2]) λx21=>L28 (ai x1) λx22=>AI x22
abbrev KQ:L1:=⟨[0,1,0,1,1,1,1,1],[(1,aG),(2,aG),(3,bU),(4,aG),(5,aq),(25,bU),(26,aq),(27,aq)],[],[5,6,7]++List.range' 27 13,0,λn=>υ8 (nj n)⟩
abbrev KT:L1:=⟨[0,1,0,1,1,1,1,1,1,1,1],[(2,aG),(3,bU),(8,aG),(9,s9),(48,bU),(49,aq),(50,aq)],[],[10,11]++List.range' 50 26,2,λn=>υ7 (ni n)⟩
abbrev KU:List jV:=[⟨59,[bU],[bU],λx a=>vf n x a⟩, ⟨63,[bU],[bU],λx a=>vg n x a⟩]
def P0 (i:Nat):Option (List (Nat×η)):=Κ i 18 (Ω [0,1,4,5,2,6]++[(3,[6])]++Ω [8,7,9,10,11]) none
theorem P3:qc TZp (KU n):=.cons (dB (l:=[⟨52,[aG],λa c=>mF n a c⟩]) (.cons (λa c=>aL (by kernel_rfl) ((tK n) (a,c))) .nil) (λx a=>by kernel_rfl)) (.cons (dB (l:=[⟨52,[aG],λa c=>mF n a c⟩]) (.cons (λa c=>aL (by kernel_rfl) ((tK n) (a,c))) .nil) (λx a=>by kernel_rfl)) .nil)
theorem UU:iJ TZp f41 (KT.e n) KT.ws:=L1.ok f41 KT n C74 (dt:=KU) (dr:=P0) (hT:=λm _=>⟨.nil,K74 m,(P3 m),.nil,.nil⟩)
theorem UW:iJ TZp f41 (KQ.e n) KQ.ws:=L1.ok f41 KQ n C74 (dt:=KU) (dr:=P0) (hT:=λm _=>⟨.nil,K74 m,(P3 m),.nil,.nil⟩)
abbrev C75:List aS:=⟨41,[.agg [.sl,.int .i64]],[.agg [.sl,.int .i64]],λx=>xW n x⟩::C74 n
theorem K75:aC TZp (C75 n):=.cons (aY f41 (C74 n) (dl:=KU n) (ll:=[KQ.e n,KT.e n]) (dr:=P0) (hT:=⟨.nil,K74 n,(P3 n),(.cc (UW n) (.cc (UU n) .nil)),.nil⟩)) (K74 n)
def sA (a0:Sl×Int)(a1:Int):M ((Sl×Int)×Int):=sh (aJ none ao [aM a0.1,vi a0.2]) λx0=>L32 λx1=>L28 (ai x0) λx2=>sh (oe n x2) λx3=>if !decide (x3=0) then sh (bD (ai x1) [bF,vi 0]) λx4=>L28 (ai x1) λx5=>AI (x5,3) else if decide (a1<0) then sh (bD (ai x1) [bF,vi 0]) λx4=>L28 (ai x1) λx5=>AI (x5,2) else L15 ((ai x0).plus 0) λx4=>if decide ((↑x4.len:Int)<=a1) then sh (bD (ai x1) [bF,vi 0]) λx5=>L28 (ai x1) λx6=>AI (x6,2) else L15 ((ai x0).plus 0) λx5=>sh (xW n (x5,a1)) λx6=>sh (bD (ai x1) [aM x6.1,vi x6.2]) λx7=>L28 (ai x1) λx8=>AI (x8,0)
abbrev C76:List aS:=⟨31,[.agg [.sl,.int .i64],aq],[.agg [.sl,.int .i64],aq],υ2 (sA n)⟩::C75 n
theorem K76:aC TZp (C76 n):=.cons (aY f31 (C75 n) (hT:=.m1 (K75 n))) (K75 n)
def vR (a0:Sl×Int):M (Int×Bool):=sh (aJ none ao [aM a0.1,vi a0.2]) λx0=>L28 (ai x0) λx1=>sh (oe n x1) λx2=>if !decide (x2=0) then AI (0,false) else L28 (ai x0) λx3=>sh (tf n x3) λx4=>AI x4
abbrev C77:List aS:=⟨53,[.agg [.sl,.int .i64]],[aq,hS],λx=>vR n x⟩::C76 n
theorem K77:aC TZp (C77 n):=.cons (aY f53 (C76 n) (hT:=.m1 (K76 n))) (K76 n)
def sT (a0:Sl×Int):M Int:=sh (aJ none ao [aM a0.1,vi a0.2]) λx0=>L28 (ai x0) λx1=>sh (oe n x1) λx2=>if !decide (x2=0) then AI 3 else L28 (ai x0) λx3=>sh (vR n x3) λx4=>if !x4.2 then AI 14 else AI 0
abbrev C78:List aS:=⟨42,[.agg [.sl,.int .i64]],[aq],λx=>sT n x⟩::C77 n
theorem K78:aC TZp (C78 n):=.cons (aY f42 (C77 n) (hT:=.m1 (K77 n))) (K77 n)
def Cw (n:Nat)(a0:Sl×Int):M (θ):=sh (aJ none ao [aM a0.1,vi a0.2]) λx0=>sh (eU 8) λx1=>L28 (ai x0) λx2=>L15 ((ai x0).plus 0) λx3=>sh (vG (some (x1+4)) bt [bF] (↑x3.len:Int) (↑x3.len:Int)) λx4=>sh (aJ (some (x1+6)) gY [aM x2.1,vi x2.2,aM x4]) λx5=>AI (some (ai x5))
def afU (i:Nat):Option (List (Nat×η)):=Κ i 1 (Ω [1,0,2,3,4,5,6,7]) none
abbrev C79:List aS:=⟨43,[.agg [.sl,.int .i64]],[vx],λx=>Cw n x⟩::C78 n
theorem K79:aC TZp (C79 n):=.cons (aY f43 (C78 n) (dr:=afU) (hT:=.m1 (K78 n))) (K78 n)
def gD (n:Nat)(a0:θ):M ζ:=sh (nn a0) λx0=>sh (nn a0) λx1=>L15 (x0.plus 1) λx2=>sh (Ee x2.a x2.len) λx3=>L15 (x1.plus 1) λx4=>sh (aap gH x3 (↑x4.len:Int)) λx5=>AI x5
def afV (i:Nat):Option (List (Nat×η)):=Κ i 1 (Ω [0,1,2,5,6,7,3,4,8,9,10,11]) none
abbrev C80:List aS:=⟨46,[vx],[oz],λx=>gD n x⟩::C79 n
theorem K80:aC TZp (C80 n):=.cons (aY f46 (C79 n) (dr:=afV) (hT:=.m1 (K79 n))) (K79 n)
def fi (a0:θ):M Unit:=sh (nn a0) λx0=>L33 (x0.plus 0) λx1=>if Option.isNone x1 then sh (nn a0) λx2=>sh (inB x2) λx3=>sh (qt n (some x3)) λx4=>sh (nn x4) λx5=>sh (atB fB 2 x5) λx6=>sh (nn a0) λx7=>sh (bD (x7.plus 0) [.pointer (some x6)]) λx8=>AI () else sh (nn a0) λx2=>L33 (x2.plus 0) λx3=>sh (eqP x3 a0) λx4=>if !x4 then AS else AI ()
abbrev C81:List aS:=⟨67,[vx],[],λx=>fi n x⟩::C80 n
theorem K81:aC TZp (C81 n):=.cons (aY f67 (C80 n) (hT:=.m1 (K80 n))) (K80 n)
def aB (a0:θ)(a1:Int):M ξ:=sh (fi n a0) λx0=>sh (nn a0) λx1=>L15 (x1.plus 1) λx2=>sh (app false x2 1 gH 1 [.int IntKind.u8 a1]) λx3=>sh (nn a0) λx4=>sh (bD (x4.plus 1) [aM x3]) λx5=>AI Value.nilIface
abbrev C82:List aS:=⟨56,[vx,.one (.int .u8)],[s9],υ2 (aB n)⟩::C81 n
theorem K82:aC TZp (C82 n):=.cons (aY f56 (C81 n) (hT:=.m1 (K81 n))) (K81 n)
def qP (G:τ46)(n:Nat):τ46:=λa0 a1 a2 a3=>if decide (a3<a2) then sh (jy a0 a3) λx0=>if decide ((↑x0.toNat:Int)=34) then sh (aB n (some a1) 92) λx1=>sh (jy a0 a3) λx2=>sh (aB n (some a1) (↑x2.toNat:Int)) λx3=>G a0 a1 a2 (i64.wrap (a3+1)) else sh (jy a0 a3) λx1=>if decide ((↑x1.toNat:Int)=92) then sh (aB n (some a1) 92) λx2=>sh (jy a0 a3) λx3=>sh (aB n (some a1) (↑x3.toNat:Int)) λx4=>G a0 a1 a2 (i64.wrap (a3+1)) else sh (jy a0 a3) λx2=>sh (aB n (some a1) (↑x2.toNat:Int)) λx3=>G a0 a1 a2 (i64.wrap (a3+1)) else AI ()
def iR:=lp0 qP
theorem zK:iR (n+1)=qP (iR n) n:=rfl
def uy (a0:ζ):M ζ:=sh (aJ none fB [.pointer none,bF]) λx0=>sh (aB n (some (ai x0)) 34) λx1=>sh (iR n a0 (ai x0) (↑a0.size:Int) 0) λx2=>sh (aB n (some (ai x0)) 34) λx3=>sh (gD n (some (ai x0))) λx4=>AI x4
abbrev KW:L1:=⟨[0,1,0,1,1,1],[(0,oz),(3,aG),(7,aq),(8,aq)],[],[4]++List.range' 8 19,0,λn=>υ4 (iR n)⟩
theorem UX:iJ TZp f66 (KW.e n) KW.ws:=L1.ok f66 KW n C82 (hT:=λm _=>.m1 (K82 m))
abbrev C83:List aS:=⟨66,[oz],[oz],λx=>uy n x⟩::C82 n
theorem K83:aC TZp (C83 n):=.cons (aY f66 (C82 n) (ll:=[KW.e n]) (hT:=⟨.nil,K82 n,.nil,(.cc (UX n) .nil),.nil⟩)) (K82 n)
def tP (G:τ47)(n:Nat):τ47:=λa0 a1 a2 a3=>if decide (a3<a2) then sh (nn a0) λx0=>sh (nn a0) λx1=>L11 (x0.plus 1) λx2=>sh (jy x2 a3) λx3=>sh (ou (decide (0<=4))) λx4=>sh (jy (ofBytes [48,49,50,51,52,53,54,55,56,57,97,98,99,100,101,102]) ((↑x3.toNat:Int).fdiv (2^4))) λx5=>L11 (x1.plus 1) λx6=>sh (jy x6 a3) λx7=>sh (jy (ofBytes [48,49,50,51,52,53,54,55,56,57,97,98,99,100,101,102]) (IntKind.u8.wrap (↑(BitVec.ofInt 8 (↑x7.toNat:Int)&&&BitVec.ofInt 8 15).toNat:Int))) λx8=>sh (app true a1 1 gH 2 [.int IntKind.u8 (↑x5.toNat:Int),.int IntKind.u8 (↑x8.toNat:Int)]) λx9=>G a0 x9 a2 (i64.wrap (a3+1)) else AI a1
def np:=lp0 tP
theorem BD:np (n+1)=tP (np n) n:=rfl
def vh (a0:θ):M ζ:=sh (nn a0) λx0=>L10 (x0.plus 0) λx1=>if decide (x1=0) then AI (ofBytes [110,117,108,108]) else if decide (x1=5) then sh (nn a0) λx2=>L11 (x2.plus 1) λx3=>sh (uy n x3) λx4=>AI x4 else if decide (x1=6) then sh (aJ none gH [.int IntKind.u8 35]) λx2=>sh (nn a0) λx3=>L11 (x3.plus 1) λx4=>sh (np n a0 { a:=some (ai x2),len:=1,cap:=2 } (↑(ByteArray.size x4):Int) 0) λx5=>sh (strOf x5) λx6=>AI x6 else if decide (x1=7) then sh (nn a0) λx2=>L11 (x2.plus 1) λx3=>sh (kY (ofBytes [64]) x3) λx4=>AI x4 else if decide (x1=8) then sh (nn a0) λx2=>L11 (x2.plus 1) λx3=>sh (kY (ofBytes [37]) x3) λx4=>AI x4 else sh (nn a0) λx2=>L11 (x2.plus 1) λx3=>AI x3
abbrev KY:L1:=⟨[0,1,0,1,0,1,1,1,1,1,0,1,0,1],[(0,vx),(3,bU),(25,aq),(26,aq)],[(3,bU)],[3,4]++List.range' 26 23,1,λn=>υ4 (np n)⟩
def XL (i:Nat):Option (List (Nat×η)):=Κ i 11 (Ω [0,1,2,3,5,9,10,11,13,4,6,7,8,12,14,15,16,17,18,19]) none
theorem UY:iJ TZp f54 (KY.e n) KY.ws:=L1.ok f54 KY n C83 (dr:=XL) (hT:=λm _=>.m1 (K83 m))
abbrev C84:List aS:=⟨54,[vx],[oz],λx=>vh n x⟩::C83 n
theorem K84:aC TZp (C84 n):=.cons (aY f54 (C83 n) (ll:=[KY.e n]) (dr:=XL) (hT:=⟨.nil,K83 n,.nil,(.cc (UY n) .nil),.nil⟩)) (K83 n)
structure aV where
 dZ:θ->Int->Sl->θ->Int->Sl->Int->Int->M Int
 eM:θ->Int->Sl->M Int
def lT (G:aV)(n:Nat)(a0:θ)(a1:Int)(a2:Sl)(a3:θ)(a4:Int)(a5:Sl)(a6 a7:Int):M Int:=if decide (a7<a6) then L12 a5 a7 1 λx0=>L10 x0 λx1=>sh (nn a3) λx2=>L10 (x2.plus 0) λx3=>if decide (x3=10) then sh (nn a3) λx4=>L15 (x4.plus 3) λx5=>L12 x5 a7 1 λx6=>L10 x6 λx7=>sh (G.eM a0 x7 a2) λx8=>sh (G.eM a0 x1 a2) λx9=>G.dZ a0 a1 a2 a3 (i64.wrap (i64.wrap (a4+i64.wrap (1+x8))+x9)) a5 a6 (i64.wrap (a7+1)) else sh (G.eM a0 x1 a2) λx4=>G.dZ a0 a1 a2 a3 (i64.wrap (a4+x4)) a5 a6 (i64.wrap (a7+1)) else AI a4
def dE (G:aV)(n:Nat)(a0:θ)(a1:Int)(a2:Sl)(a3:θ)(a4:Int):M Int:=sh (nn a3) λx0=>L15 (x0.plus 4) λx1=>sh (G.dZ a0 a1 a2 a3 a4 x1 (↑x1.len:Int) 0) λx2=>L12 a2 a1 1 λx3=>sh (bD x3 [vi (if 65537<x2 then 65537 else x2)]) λx4=>L12 a2 a1 1 λx5=>L10 x5 λx6=>AI x6
def lU (G:aV)(n:Nat)(a0:θ)(a1:Int)(a2:Sl)(a3:θ)(a4:Int):M Int:=if decide (a4=11) then sh (nn a3) λx0=>L11 (x0.plus 1) λx1=>dE G n a0 a1 a2 a3 (i64.wrap (3+(↑(ByteArray.size x1):Int))) else sh (vh n a3) λx0=>dE G n a0 a1 a2 a3 (↑(ByteArray.size x0):Int)
def oh (G:aV)(n:Nat)(a0:θ)(a1:Int)(a2:Sl):M Int:=L12 a2 a1 1 λx0=>L10 x0 λx1=>if decide (0<=x1) then L12 a2 a1 1 λx2=>L10 x2 λx3=>AI x3 else sh (nn a0) λx2=>L15 ((x2.plus 0).plus 0) λx3=>L12 x3 a1 5 λx4=>sh (nn (some x4)) λx5=>L10 (x5.plus 0) λx6=>if decide (x6=9) then sh (nn (some x4)) λx7=>L15 (x7.plus 4) λx8=>dE G n a0 a1 a2 (some x4) (i64.wrap (2+if 0<i64.wrap ((↑x8.len:Int)-1) then i64.wrap ((↑x8.len:Int)-1) else 0)) else if decide (x6=10) then sh (nn (some x4)) λx7=>L15 (x7.plus 4) λx8=>dE G n a0 a1 a2 (some x4) (i64.wrap (2+if 0<i64.wrap ((↑x8.len:Int)-1) then i64.wrap ((↑x8.len:Int)-1) else 0)) else lU G n a0 a1 a2 (some x4) x6
def aV.at:Nat->aV|0=>⟨λ_ _ _ _ _ _ _ _=>AS,λ_ _ _=>AS⟩|n+1=>⟨lT (aV.at n) n,oh (aV.at n) n⟩
def dZ:=(aV.at n).dZ
def eM:=(aV.at n).eM
def yR:=lU (aV.at n) n
def yS:=dE (aV.at n) n
abbrev XM:aS:=⟨44,[vx,aq,bU],[aq],υ3 (eM n)⟩
abbrev KZ:L1:=⟨[0,1,0,1,1,1,1,1],[(0,vx),(1,aq),(2,bU),(7,vx),(8,aq),(56,bU),(57,aq),(58,aq)],[(8,aq)],[8,9,10]++List.range' 58 30,1,λn=>υ8 (dZ n)⟩
abbrev C85:List aS:=XM n::C84 n
abbrev afW:List (fT Int):=[⟨[0,1,1,0,1,0,1,1,1,1],[.code [1,1,1,0,1,0,1,1,1,1],.av 0,.code [1,1,1,1,1]],[(0,vx),(1,aq),(2,bU),(7,vx),(30,aq)],υ5 (yR n)⟩, ⟨[0,0,1,1,1,1,1],[.code [1,0,1,1,1,1,1],.code [1,1,1,1,1,1]],[(0,vx),(1,aq),(2,bU),(7,vx),(8,aq)],υ5 (yS n)⟩]
def kF:Prop:=aF TZp (XM n)
theorem XN (H:kF n):aC TZp (C85 n):=.cons H (K84 n)
theorem UZ (H:∀m,m<n->kF m):iJ TZp f44 (KZ.e n) KZ.ws:=L1.ok f44 KZ n C85 (hT:=λm hm=>.m1 (XN m (H m hm)))
theorem vj (H:∀m,m<n+1->kF m):aF TZp (XM (n+1)):=aY f44 (C85 n) (ll:=[KZ.e n]) (js:=afW n) (hT:=⟨.nil,XN n (H n (aad n)),.nil,(.cc (UZ n (λk hk=>H k (acy hk))) .nil),(.cc (.cc .nil))⟩)
theorem wE:∀n m,m<n->kF m:=by
 intro n
 induction n with
 |zero=>intro m hm;exact absurd hm (aji m)
 |succ n ih=>
  intro m hm;cases m with
  |zero=>exact gr (fn:=f44) (by kernel_rfl) (by kernel_rfl) (by kernel_rfl) (λ_=>rfl)
  |succ k=>exact vj k λm hm=>ih m (by omega)
theorem K85:aC TZp (C85 n):=XN n (wE (n+1) n (aad n))
def ep (a0:θ)(a1:ζ):M (Int×ξ):=sh (fi n a0) λx0=>sh (nn a0) λx1=>L15 (x1.plus 1) λx2=>sh (app false x2 1 gH a1.size (eV a1)) λx3=>sh (nn a0) λx4=>sh (bD (x4.plus 1) [aM x3]) λx5=>AI ((↑a1.size:Int),Value.nilIface)
abbrev C86:List aS:=⟨55,[vx,oz],[aq,s9],υ2 (ep n)⟩::C85 n
theorem K86:aC TZp (C86 n):=.cons (aY f55 (C85 n) (hT:=.m1 (K85 n))) (K85 n)
def qQ (G:τ48)(n:Nat):τ48:=λa0 a1 a2=>if decide (0<=a2) then L12 a0 a2 1 λx0=>L12 a1 a2 1 λx1=>sh (ak (.int IntKind.u8) x0) λ(x2:Int)=>sh (ak (.int IntKind.u8) x1) λ(x3:Int)=>if !decide (x2=x3) then L12 a0 a2 1 λx4=>L12 a1 a2 1 λx5=>sh (ak (.int IntKind.u8) x4) λ(x6:Int)=>sh (ak (.int IntKind.u8) x5) λ(x7:Int)=>if decide (x6<x7) then AI (Sum.inr (-1)) else AI (Sum.inr 1) else G a0 a1 (i64.wrap (a2-1)) else AI (Sum.inl ())
def kp:=lp0 qQ
theorem zL:kp (n+1)=qQ (kp n) n:=rfl
def qR (a0 a1:Sl):M Int:=if !decide ((↑a0.len:Int)=(↑a1.len:Int)) then if decide ((↑a0.len:Int)<(↑a1.len:Int)) then AI (-1) else AI 1 else sh (kp n a0 a1 (i64.wrap ((↑a0.len:Int)-1))) (bu (λx0=>AI 0) (λx0=>AI x0))
abbrev Ft:L2:=⟨[0,1,0,1,1],[(0,bU),(1,bU),(5,aq)],[],[(4,aq)],[4,5]++List.range' 19 22,0,.ret,λn=>υ3 (kp n)⟩
def R4 (i:Nat):Option (List (Nat×η)):=Κ i 8 (Ω [0,1,2,4,5,6,3,7,8]) (Κ i 9 (Ω [0,1,2,4,5,6,3,7,8]) none)
theorem P4:iJ TZp f173 (Ft.e n) Ft.ws:=L2.ok f173 Ft n C86 (dr:=R4) (hT:=λm _=>.m1 (K86 m))
abbrev C87:List aS:=⟨173,[bU,bU],[aq],υ2 (qR n)⟩::C86 n
theorem K87:aC TZp (C87 n):=.cons (aY f173 (C86 n) (ll:=[Ft.e n]) (dr:=R4) (hT:=⟨.nil,K86 n,.nil,(.cc (P4 n) .nil),.nil⟩)) (K86 n)
def jK (a0 a1:Addr):M Int:=L19 (a0.plus 0) λx0=>if x0 then L15 (a1.plus 1) λx1=>L15 (a0.plus 1) λx2=>sh (qR n x1 x2) λx3=>AI x3 else L15 (a0.plus 1) λx1=>L15 (a1.plus 1) λx2=>sh (qR n x1 x2) λx3=>AI x3
def qS (a0 a1:Addr):M Int:=L19 (a0.plus 0) λx0=>if x0 then L19 (a1.plus 0) λx1=>if !x1 then AI (-1) else L19 (a0.plus 0) λx2=>if !x2 then L19 (a1.plus 0) λx3=>if x3 then AI 1 else jK n a0 a1 else jK n a0 a1 else L19 (a0.plus 0) λx1=>if !x1 then L19 (a1.plus 0) λx2=>if x2 then AI 1 else jK n a0 a1 else jK n a0 a1
def vS (a0 a1:ζ):M Int:=sh (oD n a0) λx0=>L22 λx1=>sh (bD (ai x1) [.bool x0.1.1,aM x0.1.2]) λx2=>sh (oD n a1) λx3=>L22 λx4=>sh (bD (ai x4) [.bool x3.1.1,aM x3.1.2]) λx5=>if !x0.2 then AI 0 else if !x3.2 then AI 0 else qS n (ai x1) (ai x4)
abbrev abu:List (fT Int):=[⟨[0,0,0,1,1,1,1],[.code [1,0,0,1,1,1,1],.av 0,.code [1,1,1,1,1]],[(5,aG),(7,aG)],υ2 (qS n)⟩, ⟨[0,1,1,1,1,0,0,1,1,1,1],[.code [1,1,1,1,1,0,0,1,1,1,1],.av 0,.code [1,1,1,1,1]],[(5,aG),(7,aG)],υ2 (jK n)⟩]
abbrev C88:List aS:=⟨144,[oz,oz],[aq],υ2 (vS n)⟩::C87 n
theorem K88:aC TZp (C88 n):=.cons (aY f144 (C87 n) (js:=abu n) (hT:=⟨.nil,K87 n,.nil,.nil,(.cc (.cc .nil))⟩)) (K87 n)
def sU (n:Nat)(a0:Int):M Int:=if decide (a0<0) then AI (-1) else if decide (0<a0) then AI 1 else AI 0
abbrev C89:List aS:=⟨193,[aq],[aq],λx=>sU n x⟩::C88 n
theorem K89:aC TZp (C89 n):=.cons (aY f193 (C88 n) (hT:=.m1 (K88 n))) (K88 n)
def eN (n:Nat)(a0:Bool×Sl×Int)(a1:Int):M Int:=sh (aJ none bT [.bool a0.1,aM a0.2.1,vi a0.2.2]) λx0=>L15 ((ai x0).plus 1) λx1=>if decide (a1<(↑x1.len:Int)) then L15 ((ai x0).plus 1) λx2=>L12 x2 a1 1 λx3=>sh (ak (.int IntKind.u8) x3) λ(x4:Int)=>AI x4 else AI 0
abbrev XR:aS:=⟨206,[.agg [.bool,.sl,.int .i64],aq],[.one (.int .u8)],υ2 (eN n)⟩
theorem lV:aF TZp (XR n):=aY f206 (C89 n) (hT:=.m1 (K89 n))
abbrev C90:List aS:=XR n::C89 n
theorem K90:aC TZp (C90 n):=.cons (lV n) (K89 n)
def mG (x:ξ)(a0:Bool×Sl×Int)(a1:Int):M Int:=if pG jf x then sh (nU [] x) λ(_:Unit)=>eN n a0 a1 else AS
def mH (x:ξ)(a0:Bool×Sl×Int)(a1:Int):M Int:=if pG jf x then sh (nU [] x) λ(_:Unit)=>eN n a0 a1 else AS
def lW (G:τ49)(n:Nat):τ49:=λa0 a1 a2 a3 a4=>if decide (a4<a3) then L24 a0 λx0=>L24 a1 λx1=>sh (oo [some a1] (mG n a2 x0 a4)) λx2=>sh (mH n a2 x1 a4) λx3=>if !decide (i64.wrap (i64.wrap x2-i64.wrap x3)=0) then AI (Sum.inr (i64.wrap (i64.wrap x2-i64.wrap x3))) else G a0 a1 a2 a3 (i64.wrap (a4+1)) else AI (Sum.inl ())
def fK:=lp0 lW
theorem vk:fK (n+1)=lW (fK n) n:=rfl
def nF (a0 a1:Addr):M Int:=L15 (a0.plus 1) λx0=>L10 (a0.plus 2) λx1=>L15 (a1.plus 1) λx2=>L10 (a1.plus 2) λx3=>if !decide (i64.wrap (i64.wrap (i64.wrap ((↑x0.len:Int)+x1)-(↑x2.len:Int))-x3)=0) then AI (i64.wrap (i64.wrap (i64.wrap ((↑x0.len:Int)+x1)-(↑x2.len:Int))-x3)) else L15 (a0.plus 1) λx4=>L15 (a1.plus 1) λx5=>sh (fK n a0 a1 (Value.func (Fn.func jf) #[] #[]) (if (↑x4.len:Int)<(↑x5.len:Int) then (↑x5.len:Int) else (↑x4.len:Int)) 0) (bu (λx6=>AI 0) (λx6=>AI x6))
def mI (a0 a1:Bool×Sl×Int):M Int:=sh (aJ none bT [.bool a0.1,aM a0.2.1,vi a0.2.2]) λx0=>sh (aJ none bT [.bool a1.1,aM a1.2.1,vi a1.2.2]) λx1=>L15 ((ai x0).plus 1) λx2=>if decide ((↑x2.len:Int)=0) then L15 ((ai x0).plus 1) λx3=>L15 ((ai x1).plus 1) λx4=>AI (i64.wrap ((↑x3.len:Int)-(↑x4.len:Int))) else L15 ((ai x1).plus 1) λx3=>if decide ((↑x3.len:Int)=0) then L15 ((ai x0).plus 1) λx4=>L15 ((ai x1).plus 1) λx5=>AI (i64.wrap ((↑x4.len:Int)-(↑x5.len:Int))) else nF n (ai x0) (ai x1)
abbrev Fu:L2:=⟨[0,1,0,1,1,1,1],[(2,aG),(3,aG),(6,s9),(48,aq),(49,aq)],[],[(4,aq)],[4,7,8]++List.range' 49 18,0,.ret,λn=>υ5 (fK n)⟩
abbrev La:List jV:=[⟨52,[.agg [.bool,.sl,.int .i64],aq],[.one (.int .u8)],λx a=>mG n x a.1 a.2⟩, ⟨57,[.agg [.bool,.sl,.int .i64],aq],[.one (.int .u8)],λx a=>mH n x a.1 a.2⟩]
def R5 (i:Nat):Option (List (Nat×η)):=Κ i 10 (Ω [0,2,5,7,1,6]++[(3,[6])]++Ω [4,8,9,10,11]) none
abbrev abv:List (fT Int):=[⟨[0,0,1,1],[.code [1,0,1,1],.code [1,1,1]],[(2,aG),(3,aG)],υ2 (nF n)⟩]
theorem R6:qc TZp (La n):=.cons (dB (l:=[⟨206,[],λa _=>eN n a.1 a.2⟩]) (.cons (λa c=>aL (by kernel_rfl) ((lV n) (a.1,a.2))) .nil) (λx a=>by kernel_rfl)) (.cons (dB (l:=[⟨206,[],λa _=>eN n a.1 a.2⟩]) (.cons (λa c=>aL (by kernel_rfl) ((lV n) (a.1,a.2))) .nil) (λx a=>by kernel_rfl)) .nil)
theorem P5:iJ TZp f194 (Fu.e n) Fu.ws:=L2.ok f194 Fu n C90 (dt:=La) (dr:=R5) (hT:=λm _=>⟨.nil,K90 m,(R6 m),.nil,.nil⟩)
abbrev C91:List aS:=⟨194,[.agg [.bool,.sl,.int .i64],.agg [.bool,.sl,.int .i64]],[aq],υ2 (mI n)⟩::C90 n
theorem K91:aC TZp (C91 n):=.cons (aY f194 (C90 n) (dl:=La n) (ll:=[Fu.e n]) (dr:=R5) (js:=abv n) (hT:=⟨.nil,K90 n,(R6 n),(.cc (P5 n) .nil),(.cc .nil)⟩)) (K90 n)
def pF (a0 a1:Bool×Sl×Int):M Int:=sh (aJ none bT [.bool a0.1,aM a0.2.1,vi a0.2.2]) λx0=>sh (aJ none bT [.bool a1.1,aM a1.2.1,vi a1.2.2]) λx1=>L19 ((ai x0).plus 0) λx2=>L19 ((ai x1).plus 0) λx3=>if !x2==x3 then L19 ((ai x0).plus 0) λx4=>if x4 then AI (-1) else AI 1 else L24 (ai x0) λx4=>L24 (ai x1) λx5=>sh (mI n x4 x5) λx6=>sh (sU n x6) λx7=>L19 ((ai x0).plus 0) λx8=>if x8 then AI (i64.wrap (0-x7)) else AI x7
abbrev C92:List aS:=⟨174,[.agg [.bool,.sl,.int .i64],.agg [.bool,.sl,.int .i64]],[aq],υ2 (pF n)⟩::C91 n
theorem K92:aC TZp (C92 n):=.cons (aY f174 (C91 n) (hT:=.m1 (K91 n))) (K91 n)
def vT (a0 a1:ζ):M Int:=sh (oH n a0) λx0=>L23 λx1=>sh (bD (ai x1) [.bool x0.1.1,aM x0.1.2.1,vi x0.1.2.2]) λx2=>sh (oH n a1) λx3=>L23 λx4=>sh (bD (ai x4) [.bool x3.1.1,aM x3.1.2.1,vi x3.1.2.2]) λx5=>if !x0.2 then AI 0 else if !x3.2 then AI 0 else L24 (ai x1) λx6=>L24 (ai x4) λx7=>sh (pF n x6 x7) λx8=>AI x8
abbrev C93:List aS:=⟨145,[oz,oz],[aq],υ2 (vT n)⟩::C92 n
theorem K93:aC TZp (C93 n):=.cons (aY f145 (C92 n) (hT:=.m1 (K92 n))) (K92 n)
def wF (n a0 a1:Nat):M (Int×Bool):=if fLt a0 a1 then AI (-1,true) else if fGt a0 a1 then AI (1,true) else AI (0,true)
def xX (a0 a1:ζ):M (Int×Bool):=sh (mz n a0) λx0=>sh (mz n a1) λx1=>if !x0.2 then AI (0,false) else if !x1.2 then AI (0,false) else if !HV x0.1 x0.1 then AI (0,false) else if !HV x1.1 x1.1 then AI (0,false) else wF n x0.1 x1.1
abbrev abw:List (fT (Int×Bool)):=[⟨[0,1,1,0,0,1,1,1],[.code [1,1,1,0,0,1,1,1],.av 0,.code [1,1,1,1]],[(6,.one (.f64)),(8,.one (.f64))],υ2 (wF n)⟩]
abbrev C94:List aS:=⟨146,[oz,oz],[aq,hS],υ2 (xX n)⟩::C93 n
theorem K94:aC TZp (C94 n):=.cons (aY f146 (C93 n) (js:=abw n) (hT:=⟨.nil,K93 n,.nil,.nil,(.cc .nil)⟩)) (K93 n)
def lX (a0 a1:ζ):M Int:=sh (dN n a0 a1) λx0=>AI x0
abbrev C95:List aS:=⟨175,[oz,oz],[aq],υ2 (lX n)⟩::C94 n
theorem K95:aC TZp (C95 n):=.cons (aY f175 (C94 n) (hT:=.m1 (K94 n))) (K94 n)
def strings_Compare (a0 a1:ζ):M Int:=sh (lX n a0 a1) λx0=>AI x0
abbrev C96:List aS:=⟨147,[oz,oz],[aq],υ2 (strings_Compare n)⟩::C95 n
theorem K96:aC TZp (C96 n):=.cons (aY f147 (C95 n) (hT:=.m1 (K95 n))) (K95 n)
def uz (a0:Int)(a1 a2:ζ):M Int:=if mY a1 a2 then AI 0 else if decide (a0=2) then sh (vS n a1 a2) λx0=>AI x0 else if decide (a0=3) then sh (vT n a1 a2) λx0=>AI x0 else if decide (a0=4) then if mY a1 (ofBytes [110,97,110]) then AI 1 else if mY a2 (ofBytes [110,97,110]) then AI (-1) else sh (xX n a1 a2) λx0=>if !decide (x0.1=0) then AI x0.1 else if mY a1 (ofBytes [45,48,112,48]) then AI (-1) else AI 1 else sh (strings_Compare n a1 a2) λx0=>AI x0
abbrev C97:List aS:=⟨117,[aq,oz,oz],[aq],υ3 (uz n)⟩::C96 n
theorem K97:aC TZp (C97 n):=.cons (aY f117 (C96 n) (hT:=.m1 (K96 n))) (K96 n)
def pd (a0:Int):M Int:=sh (fP n a0) λx0=>AI x0
abbrev C98:List aS:=⟨82,[.one (.int .u64)],[aq],λx=>pd n x⟩::C97 n
theorem K98:aC TZp (C98 n):=.cons (aY f82 (C97 n) (hT:=.m1 (K97 n))) (K97 n)
def nG (a0:Int):M Int:=sh (pd n (IntKind.u64.wrap a0)) λx0=>sh (ou (decide (0<=x0))) λx1=>AI (IntKind.u64.wrap (1*2^min (Int.toNat x0) 64))
abbrev C99:List aS:=⟨140,[aq],[.one (.int .u64)],λx=>nG n x⟩::C98 n
theorem K99:aC TZp (C99 n):=.cons (aY f140 (C98 n) (hT:=.m1 (K98 n))) (K98 n)
def kG (n:Nat)(a0:θ):M Int:=sh (nn a0) λx0=>sh (nn a0) λx1=>sh (ak (.int IntKind.u64) x0) λ(x2:Int)=>sh (ak (.int IntKind.u64) x1) λ(x3:Int)=>sh (ou (decide (0<=13))) λx4=>sh (nn a0) λx5=>sh (bD x5 [.int IntKind.u64 (IntKind.u64.wrap (↑(BitVec.ofInt 64 x2^^^BitVec.ofInt 64 (IntKind.u64.wrap (x3*2^13))).toNat:Int))]) λx6=>sh (nn a0) λx7=>sh (nn a0) λx8=>sh (ak (.int IntKind.u64) x7) λ(x9:Int)=>sh (ak (.int IntKind.u64) x8) λ(x10:Int)=>sh (ou (decide (0<=7))) λx11=>sh (nn a0) λx12=>sh (bD x12 [.int IntKind.u64 (IntKind.u64.wrap (↑(BitVec.ofInt 64 x9^^^BitVec.ofInt 64 (Int.fdiv x10 (2^7))).toNat:Int))]) λx13=>sh (nn a0) λx14=>sh (nn a0) λx15=>sh (ak (.int IntKind.u64) x14) λ(x16:Int)=>sh (ak (.int IntKind.u64) x15) λ(x17:Int)=>sh (ou (decide (0<=17))) λx18=>sh (nn a0) λx19=>sh (bD x19 [.int IntKind.u64 (IntKind.u64.wrap (↑(BitVec.ofInt 64 x16^^^BitVec.ofInt 64 (IntKind.u64.wrap (x17*2^17))).toNat:Int))]) λx20=>sh (nn a0) λx21=>sh (ak (.int IntKind.u64) x21) λ(x22:Int)=>AI x22
def abx (i:Nat):Option (List (Nat×η)):=Κ i 1 (Ω [0,1,3,4,2,5,6,7,8,9]) (Κ i 2 (Ω [0,1,3,4,2,5,6,7,8,9]) (Κ i 3 (Ω [0,1,3,4,2,5,6,7,8,9]) none))
abbrev aby:List aS:=⟨141,[vx],[.one (.int .u64)],λx=>kG n x⟩::C99 n
theorem afX:aC TZp (aby n):=.cons (aY f141 (C99 n) (dr:=abx) (hT:=.m1 (K99 n))) (K99 n)
def bS (G:Sl->Int->Int->Addr->Int->Int->M Unit)(n:Nat)(a0:Sl)(a1 a2:Int)(a3:Addr)(a4 a5 a6:Int):M Unit:=L12 a0 (i64.wrap (a1+a6)) 1 λx0=>L12 a0 a5 1 λx1=>L10 x0 λx2=>L10 x1 λx3=>L12 a0 a5 1 λx4=>sh (bD x4 [vi x2]) λx5=>L12 a0 (i64.wrap (a1+a6)) 1 λx6=>sh (bD x6 [vi x3]) λx7=>G a0 a1 a2 a3 a4 (i64.wrap (a5+1))
def cp (G:τ50)(n:Nat):τ50:=λa0 a1 a2 a3 a4 a5=>sh (ou (decide (4≠0))) λx0=>if decide (a5<=i64.wrap (i64.wrap (a1+i64.wrap (i64.wrap (a2.tdiv 4)*2))+1)) then sh (kG n (some a3)) λx1=>if decide (a2<=i64.wrap (IntKind.u64.wrap (↑(BitVec.ofInt 64 x1&&&BitVec.ofInt 64 (IntKind.u64.wrap (a4-1))).toNat:Int))) then bS G n a0 a1 a2 a3 a4 a5 (i64.wrap (i64.wrap (IntKind.u64.wrap (↑(BitVec.ofInt 64 x1&&&BitVec.ofInt 64 (IntKind.u64.wrap (a4-1))).toNat:Int))-a2)) else bS G n a0 a1 a2 a3 a4 a5 (i64.wrap (IntKind.u64.wrap (↑(BitVec.ofInt 64 x1&&&BitVec.ofInt 64 (IntKind.u64.wrap (a4-1))).toNat:Int))) else AI ()
def aU:=lp0 cp
def oL:=bS (aU n) n
def eH (a0:Sl)(a1 a2:Int)(a3:ξ):M Unit:=if decide (8<=i64.wrap (a2-a1)) then sh (aJ none vL [.int IntKind.u64 0]) λx0=>sh (bD (ai x0) [.int IntKind.u64 (IntKind.u64.wrap (i64.wrap (a2-a1)))]) λx1=>sh (nG n (i64.wrap (a2-a1))) λx2=>sh (ou (decide (4≠0))) λx3=>sh (aU n a0 a1 (i64.wrap (a2-a1)) (ai x0) x2 (i64.wrap (i64.wrap (a1+i64.wrap (i64.wrap ((i64.wrap (a2-a1)).tdiv 4)*2))-1))) λx4=>AI () else AI ()
abbrev Fv:L1:=⟨[0,1,1,1,0,1,1],[(0,bU),(1,aq),(8,aq),(9,aG),(10,.one (.int .u64)),(11,aq)],[],[11,12]++List.range' 28 39,0,λn=>υ6 (aU n)⟩
def R7 (i:Nat):Option (List (Nat×η)):=Κ i 10 (Ω [0,1,2,3,4,5,6,7,8,9,10,12,13,14,11,15,16,17,18,19]) none
abbrev P6:List (fT Unit):=[⟨[1,1,0,0,1,0,0,1,1,1,0,1,1],[.av 1,.code [1,1,0,0,1,1,1,0,1,1]],[(0,bU),(1,aq),(8,aq),(9,aG),(10,.one (.int .u64)),(11,aq),(12,aq)],υ7 (oL n)⟩]
theorem P7:iJ TZp f109 (Fv.e n) Fv.ws:=L1.ok f109 Fv n aby (dr:=R7) (jt:=P6) (hT:=λm _=>⟨.nil,afX m,.nil,.nil,(.cc .nil)⟩)
abbrev abz:List aS:=⟨109,[bU,aq,aq,s9],[],υ4 (eH n)⟩::aby n
theorem afY:aC TZp (abz n):=.cons (aY f109 (aby n) (ll:=[Fv.e n]) (dr:=R7) (hT:=⟨.nil,afX n,.nil,(.cc (P7 n) .nil),.nil⟩)) (afX n)
def cy (G:τ51)(n:Nat):τ51:=λa0 a1 a2=>if decide (a1<a2) then L12 a0 a2 1 λx0=>L12 a0 a1 1 λx1=>L10 x0 λx2=>L10 x1 λx3=>L12 a0 a1 1 λx4=>sh (bD x4 [vi x2]) λx5=>L12 a0 a2 1 λx6=>sh (bD x6 [vi x3]) λx7=>G a0 (i64.wrap (a1+1)) (i64.wrap (a2-1)) else AI ()
def bV:=lp0 cy
def eZ (a0:Sl)(a1 a2:Int)(a3:ξ):M Unit:=sh (bV n a0 a1 (i64.wrap (a2-1))) λx0=>AI ()
abbrev Fw:L1:=⟨[0,1,1],[(0,bU),(8,aq),(9,aq)],[],[8,9]++List.range' 13 21,0,λn=>υ3 (bV n)⟩
def R8 (i:Nat):Option (List (Nat×η)):=Κ i 3 (Ω [0,1,2,3,4,5,6,8,9,10,7,11,12,13,14,15]) none
theorem P8:iJ TZp f111 (Fw.e n) Fw.ws:=L1.ok f111 Fw n abz (dr:=R8) (hT:=λm _=>.m1 (afY m))
abbrev aix:List aS:=⟨111,[bU,aq,aq,s9],[],υ4 (eZ n)⟩::abz n
theorem alw:aC TZp (aix n):=.cons (aY f111 (abz n) (ll:=[Fw.e n]) (dr:=R8) (hT:=⟨.nil,afY n,.nil,(.cc (P8 n) .nil),.nil⟩)) (afY n)
end Go.Sh
