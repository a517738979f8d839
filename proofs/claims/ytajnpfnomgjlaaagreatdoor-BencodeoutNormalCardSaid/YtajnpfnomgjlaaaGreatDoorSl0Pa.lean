
import Derived.Test.YtajnpfnomgjlaaaGreatDoorPuPa
set_option linter.all false
set_option maxRecDepth 100000
set_option maxHeartbeats 0
namespace Go.Sh
open Go Go.Ago Go.Proofs
abbrev D0 (n:Nat):List dv:=[⟨4,[.agg [.sl,.int .i64]],[.one (.bool)],λx=>nR n (x)⟩,⟨5,[],[.one (.bool)],λ_=>D6 n⟩,⟨6,[.agg [.sl,.int .i64]],[.one (.str),.one (.int .i64)],λx=>eD n (x)⟩,⟨7,[.agg [.sl,.int .i64]],[.agg [.sl,.int .i64],.one (.int .i64)],λx=>sE n (x)⟩]
theorem L0 (n:Nat):eE Tryz.prog (D0 n):=.cons (Ay n) (.cons (UX n) (.cons (uW n) (.cons (E7 n) .nil)))
def jS (n:Nat)(a0:Sl×Int):M (Bool):=
 sh (aF none aj [aI a0.1,vi a0.2]) λx0=>
 sh (aE [.sl,li] (al x0)) λ(x1:Sl×Int)=>
 sh (nR n (x1.1,x1.2)) λx2=>
 if !x2 then
  sh (D6 n) λx3=>
  AI x3
 else
  sh (aE [.sl,li] (al x0)) λ(x3:Sl×Int)=>
  sh (eD n (x3.1,x3.2)) λx4=>
  sh (aE [.sl,li] (al x0)) λ(x5:Sl×Int)=>
  sh (sE n (x5.1,x5.2)) λx6=>
  sh (aF none aj [aO,vi 0]) λx7=>
  sh (bh (al x7) [aI x6.1.1,vi x6.1.2]) λx8=>
  if !decide (x6.2=0) then
   sh (D6 n) λx9=>
   if x9 then
    AI (decide (x4.2=3))
   else
    AI false
  else
   sh (aE [.sl,li] (al x7)) λ(x9:Sl×Int)=>
   sh (eD n (x9.1,x9.2)) λfD=>
   sh (D6 n) λx11=>
   if x11 then
    if decide (x4.2=fD.2) then
     AI (qE x4.1 fD.1)
    else
     AI false
   else
    AI false
abbrev ai6 (n:Nat):dv:=⟨3,[.agg [.sl,.int .i64]],[lS],λx=>jS n x⟩
theorem sR (n:Nat):aK Tryz.prog (ai6 n):=bw Tryz.f3 (D0 n) (hT:=.m1 (L0 n))
end Go.Sh
