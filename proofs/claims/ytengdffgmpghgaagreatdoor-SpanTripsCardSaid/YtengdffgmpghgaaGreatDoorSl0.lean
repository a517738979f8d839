
import Derived.Test.YtengdffgmpghgaaGreatDoorPu
set_option linter.all false
set_option maxRecDepth 100000
set_option maxHeartbeats 0
namespace Go.Sh
open Go Go.Ago Go.Proofs Go.Proofs.Tryz
variable (n:Nat)
abbrev D0:List aS:=[⟨4,[],[.one (.bool)],λ_=>Rh n⟩,⟨5,[.agg [.int .i64,.str,.sl,.int .i64,.sl,.sl]],[.one (.bool)],λx=>mb n (x)⟩,⟨6,[.agg [.int .i64,.str,.sl,.int .i64,.sl,.sl]],[.one (.int .i64)],λx=>iQ n (x)⟩,⟨7,[.agg [.int .i64,.str,.sl,.int .i64,.sl,.sl],.one (.int .i64)],[.one (.sl),.one (.int .i64)],λx=>sE n x.1 x.2⟩,⟨8,[.agg [.int .i64,.str,.sl,.int .i64,.sl,.sl],.one (.sl)],[.one (.int .i64),.one (.int .i64)],λx=>xa n x.1 x.2⟩,⟨9,[.agg [.int .i64,.str,.sl,.int .i64,.sl,.sl],.one (.int .i64)],[.one (.sl)],λx=>nq n x.1 x.2⟩,⟨10,[.one (.sl),.one (.sl)],[.one (.bool)],λx=>gT n x.1 x.2⟩]
theorem L0:aC Tryz.prog (D0 n):=.cons (VX n) (.cons (AU n) (.cons (A6 n) (.cons (CF n) (.cons (Lt n) (.cons (w8 n) (.cons (wI n) .nil))))))
def ji (G:Addr->Int->Sl->Sl->Int->M ((Unit)⊕(Bool)))(n:Nat)(a0:Addr)(a1:Int)(a2:Sl)(a3:Sl)(a4:Int):M ((Unit)⊕(Bool)):=
 if decide (a4<(↑a3.len:Int)) then
  L12 a3 a4 1 λx0=>
  L31 a0 λx1=>
  sh (ak (li) x0) λ(x2:Int)=>
  sh (sE n x1 x2) λx3=>
  if !decide (x3.2=0) then
   AI (Sum.inr false)
  else
   if !decide ((↑x3.1.len:Int)=IntKind.i64.wrap ((↑a2.len:Int)+1)) then
    AI (Sum.inr false)
   else
    sh (jT x3.1 0 (↑a2.len:Int) aA 2) λx4=>
    sh (gT n x4 a2) λx5=>
    if !x5 then
     AI (Sum.inr false)
    else
     L12 a3 a4 1 λx6=>
     L15 (a0.plus 4) λx7=>
     sh (ak (li) x6) λ(x8:Int)=>
     L12 x7 x8 9 λx9=>
     sh (ak (li) (x9.plus 2)) λ(x10:Int)=>
     if !decide (x10=a4) then
      AI (Sum.inr false)
     else
      G a0 a1 a2 a3 (IntKind.i64.wrap (a4+1))
 else
  AI (Sum.inl ())
def dL:Nat->Addr->Int->Sl->Sl->Int->M ((Unit)⊕(Bool))
 |0=>λ_ _ _ _ _=>AS
 |n+1=>ji (dL n) n
theorem sH:dL (n+1)=ji (dL n) n:=rfl
def gX (G:Addr->Int->M ((Unit)⊕(Bool)))(n:Nat)(a0:Addr)(a1:Int)(a2:Sl):M ((Unit)⊕(Bool)):=
 L31 a0 λx0=>
 sh (nq n x0 a1) λx1=>
 sh (dL n a0 a1 a2 x1 0) (bu (λx2=>
  G a0 (IntKind.i64.wrap (a1+1)))
 (λx2=>
  AI (Sum.inr x2)))
def jj (G:Addr->Int->M ((Unit)⊕(Bool)))(n:Nat)(a0:Addr)(a1:Int):M ((Unit)⊕(Bool)):=
 L15 (a0.plus 4) λx0=>
 if decide (a1<(↑x0.len:Int)) then
  L31 a0 λx1=>
  sh (sE n x1 a1) λx2=>
  L31 a0 λx3=>
  sh (xa n x3 x2.1) λx4=>
  if !decide (x2.2=0) then
   AI (Sum.inr false)
  else
   if !decide (x4.2=0) then
    AI (Sum.inr false)
   else
    if !decide (x4.1=a1) then
     AI (Sum.inr false)
    else
     gX G n a0 a1 x2.1
 else
  AI (Sum.inl ())
def cn:Nat->Addr->Int->M ((Unit)⊕(Bool))
 |0=>λ_ _=>AS
 |n+1=>jj (cn n) n
theorem sI:cn (n+1)=jj (cn n) n:=rfl
def tX:=gX (cn n) n
def mQ (n:Nat)(a0:Int×ζ×Sl×Int×Sl×Sl):M (Bool):=
 sh (aJ none fI [vi a0.1,Value.string a0.2.1,aM a0.2.2.1,vi a0.2.2.2.1,aM a0.2.2.2.2.1,aM a0.2.2.2.2.2]) λx0=>
 sh (Rh n) λx1=>
 if !x1 then
  AI false
 else
  L31 (ai x0) λx2=>
  sh (mb n x2) λx3=>
  if !x3 then
   AI true
  else
   L31 (ai x0) λx4=>
   sh (iQ n x4) λx5=>
   if !decide (x5=0) then
    AI true
   else
    sh (cn n (ai x0) 0) (bu (λx6=>
     AI true)
    (λx6=>
     AI x6))
abbrev alP:aS:=⟨3,[.agg [.int .i64,.str,.sl,.int .i64,.sl,.sl]],[hS],λx=>mQ n x⟩
abbrev Tl:L2:=⟨[0,1,0,1,1,1],[(1,aG),(3,aq)],[],[(2,hS)],List.range' 2 10++List.range' 22 80,0,.ret,λn x=>cn n x.1 x.2⟩
abbrev Tm:L2:=⟨[0,1,1,1,1,1,0,0,1,0,0,1,0,1,1,1],[(1,aG),(3,aq),(4,bU),(8,bU),(9,aq)],[],[(2,hS)],[2,9,10,11]++List.range' 55 47,2,.ret,λn x=>dL n x.1 x.2.1 x.2.2.1 x.2.2.2.1 x.2.2.2.2⟩
def Z0 (i:Nat):Option (List (Nat×η)):=cond (Nat.beq i 16) (some [(1,[]),(2,[]),(3,[]),(0,[]),(4,[]),(5,[]),(6,[]),(7,[]),(8,[]),(9,[]),(10,[])]) (cond (Nat.beq i 17) (some [(0,[]),(1,[]),(2,[]),(3,[]),(4,[]),(5,[]),(6,[]),(7,[]),(8,[]),(9,[]),(10,[]),(11,[]),(12,[]),(13,[]),(15,[]),(14,[]),(16,[]),(17,[]),(18,[]),(19,[]),(20,[]),(22,[]),(23,[]),(24,[]),(29,[]),(21,[]),(25,[]),(26,[]),(27,[]),(28,[]),(30,[]),(31,[])]) (none))
abbrev Z1:List (fT ((Unit)⊕(Bool))):=[⟨[0,1,1,1,0,0,1,0,0,1,0,1,1,1],[.code [1,1,1,1,0,0,1,0,0,1,0,1,1,1],.av 1,.code [1,1,0,0,1,0,1,1,1]],[(1,aG),(3,aq),(4,bU)],λx=>tX n x.1 x.2.1 x.2.2⟩]
theorem Z2:iJ Tryz.prog f3 (Tm.e n) Tm.ws:=L2.ok f3 Tm n D0 (dr:=Z0) (hT:=λm _=>.m1 (L0 m))
theorem Z3:iJ Tryz.prog f3 (Tl.e n) Tl.ws:=L2.ok f3 Tl n D0 (lt:=λn=>[Tm.e n]) (dr:=Z0) (jt:=Z1) (hT:=λm _=>⟨.nil,L0 m,.nil,(.cc (Z2 m) .nil),(.cc .nil)⟩)
theorem vF:aF Tryz.prog (alP n):=aY f3 (D0 n) (ll:=[Tl.e n]) (dr:=Z0) (hT:=⟨.nil,L0 n,.nil,(.cc (Z3 n) .nil),.nil⟩)
end Go.Sh
