
import Derived.Test.YthnfbcloepfooaaGreatDoorPuPa
set_option maxRecDepth 100000
set_option maxHeartbeats 0
namespace Go.Sh
open Go Go.Ago Go.Proofs
abbrev D0 (n:Nat):List cr:=[⟨4,[],[.one (.bool)],λ_=>AM n⟩,⟨5,[.one (.str)],[.agg [.int .i64,.str,.sl,.int .i64,.sl,.sl],.one (.int .i64),.one (.int .i64)],λx=>mV n (x)⟩,⟨6,[.agg [.sl,.int .i64]],[.one (.str),.one (.int .i64)],λx=>dX n (x)⟩]
theorem L0 (n:Nat):bA Tryz.prog (D0 n):=.cons (Pb n) (.cons (Aw n) (.cons (qS n) .nil))
def gW (n:Nat)(a0:ζ):M (Bool):=
 if decide (500<(↑a0.size:Int)) then
  AI (AM n) λx0=>
  AS x0
 else
  AI (mV n a0) λx0=>
  AI (aJ none lr [vi 0,Value.string (ofBytes []),aZ,vi 0,aZ,aZ]) λx1=>
  AI (bE (aw x1) [vi x0.1.1,Value.string x0.1.2.1,aS x0.1.2.2.1,vi x0.1.2.2.2.1,aS x0.1.2.2.2.2.1,aS x0.1.2.2.2.2.2]) λx2=>
  if !decide (x0.2.2=0) then
   AI (AM n) λx3=>
   AS x3
  else
   AI (bh [.sl,li] ((aw x1).plus 2)) λ(x3:Sl×Int)=>
   AI (dX n (x3.1,x3.2)) λx4=>
   AI (AM n) λx5=>
   if x5 then
    if decide (x4.2=0) then
     AS (pj x4.1 a0)
    else
     AS false
   else
    AS false
abbrev ZQ (n:Nat):cr:=⟨3,[yR],[kP],λx=>gW n x⟩
theorem oS (n:Nat):bz Tryz.prog (ZQ n):=cQ Tryz.f3 (D0 n) (hT:=.m1 (L0 n))
end Go.Sh
