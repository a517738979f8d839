
import Derived.Test.YthcljaholofonaaGreatDoorPu
set_option linter.all false
set_option maxRecDepth 100000
set_option maxHeartbeats 0
namespace Go.Sh
open Go Go.Ago Go.Proofs
abbrev D0 (n:Nat):List cA:=[eN 4 [.agg [.sl,.int .i64]] [.one (.bool)] (lY n),eN 5 [] [.one (.bool)] (FN n),eN 6 [.agg [.sl,.int .i64]] [.one (.str),.one (.int .i64)] (eD n),eN 7 [.agg [.sl,.int .i64],.agg [.sl,.int .i64]] [.one (.bool)] (nK n)]
def L0 (n:Nat):cS Tryz.prog (D0 n):=.cons (Ee n) (.cons (Y1 n) (.cons (xr n) (.cons (DC n) .nil)))
def iz (n:Nat)(a0:Addr)(a1:Addr):M (Bool):=
 gL a0 λx0=>
 sh (eD n (x0.1,x0.2)) λx1=>
 gL a1 λx2=>
 sh (eD n (x2.1,x2.2)) λx3=>
 sh (FN n) λx4=>
 if x4 then
  if !decide (x1.2=0) then
   AI true
  else
   if !decide (x3.2=0) then
    AI true
   else
    gL a0 λx5=>
    gL a1 λx6=>
    sh (nK n (x5.1,x5.2) (x6.1,x6.2)) λx7=>
    AI (oG x1.1 x3.1==x7)
 else
  AI false
def jM (n:Nat)(a0:Sl×Int)(a1:Sl×Int):M (Bool):=
 nW ai [aA a0.1,vi a0.2] λx0=>
 nW ai [aA a1.1,vi a1.2] λx1=>
 gL (ak x0) λx2=>
 sh (lY n (x2.1,x2.2)) λx3=>
 if !x3 then
  sh (FN n) λx4=>
  AI x4
 else
  gL (ak x1) λx4=>
  sh (lY n (x4.1,x4.2)) λx5=>
  if !x5 then
   sh (FN n) λx6=>
   AI x6
  else
   iz n (ak x0) (ak x1)
abbrev aqw (n:Nat):cA:=eN 3 [.agg [.sl,.int .i64],.agg [.sl,.int .i64]] [jd] (jM n)
abbrev apf (n:Nat):List (gO (Bool)):=[jN [0,1,1] [.code [1,1,1]] [(2,aB),(3,aB)] (iz n)]
def tZ (n:Nat):aC Tryz.prog (aqw n):=aL Tryz.f3 (js:=apf n) (hT:=.m3 (L0 n) (.cc .nil))
end Go.Sh
