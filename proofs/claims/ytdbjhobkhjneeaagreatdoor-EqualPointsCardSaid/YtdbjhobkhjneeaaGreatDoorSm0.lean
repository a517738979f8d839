
import Derived.Test.YtdbjhobkhjneeaaGreatDoorPu
set_option linter.all false
set_option maxRecDepth 100000
set_option maxHeartbeats 0
namespace Go.Sh
open Go Go.Ago Go.Proofs
abbrev D0 (n:Nat):List dV:=[eN 5 [] [.one (.bool)] (MO n),eN 6 [.agg [.sl,.int .i64]] [.one (.bool)] (jX n),eN 7 [.agg [.sl,.int .i64],.agg [.sl,.int .i64]] [.one (.bool)] (kA n),eN 8 [.agg [.sl,.int .i64],.agg [.sl,.int .i64]] [.one (.bool)] (Im n),eN 9 [.agg [.sl,.int .i64],.agg [.sl,.int .i64]] [.one (.bool)] (jV n),eN 10 [.agg [.sl,.int .i64]] [.one (.str),.one (.int .i64)] (p8 n),eN 11 [.agg [.sl,.int .i64],.agg [.sl,.int .i64]] [.one (.sl),.one (.bool)] (pE n),eN 12 [.agg [.sl,.int .i64],.one (.sl)] [.one (.int .i64),.one (.bool)] (jo n),eN 13 [.agg [.sl,.int .i64],.one (.int .i64)] [.agg [.sl,.int .i64],.one (.int .i64)] (kW n),eN 16 [.agg [.sl,.int .i64]] [.one (.int .i64)] (iE n)]
def L0 (n:Nat):eY Tryz.prog (D0 n):=.cons (W1 n) (.cons (BZ n) (.cons (Ak n) (.cons (JG n) (.cons (Bg n) (.cons (Ej n) (.cons (Bh n) (.cons (Be n) (.cons (Eh n) (.cons (A9 n) .nil)))))))))
def gP (n:Nat)(a0:Addr)(a1:Addr)(a2:Int)(a3:Int):M (Bool):=
 sh (bK [.sl,li] a0) λ(x0:Sl×Int)=>
 sh (kW n (x0.1,x0.2) a2) λx1=>
 sh (iB none ah [aI,vi 0]) λx2=>
 sh (rE (ak x2) [aC x1.1.1,vi x1.1.2]) λx3=>
 sh (bK [.sl,li] a1) λ(x4:Sl×Int)=>
 sh (kW n (x4.1,x4.2) a3) λx5=>
 sh (iB none ah [aI,vi 0]) λx6=>
 sh (rE (ak x6) [aC x5.1.1,vi x5.1.2]) λx7=>
 sh (bK [.sl,li] (ak x2)) λ(x8:Sl×Int)=>
 sh (bK [.sl,li] (ak x6)) λ(x9:Sl×Int)=>
 sh (pE n (x8.1,x8.2) (x9.1,x9.2)) λx10=>
 if decide (x1.2=0) then
  if decide (x5.2=0) then
   sh (bK [.sl,li] (ak x2)) λ(x11:Sl×Int)=>
   sh (bK [.sl,li] (ak x6)) λ(x12:Sl×Int)=>
   sh (jV n (x11.1,x11.2) (x12.1,x12.2)) λx13=>
   if !x13 then
    if x10.2 then
     AI (decide ((↑x10.1.len:Int)=0))
    else
     AI false
   else
    AI false
  else
   AI false
 else
  AI false
def gQ (n:Nat)(a0:Addr)(a1:Addr):M (Bool):=
 sh (bK [.sl,li] a0) λ(x0:Sl×Int)=>
 sh (bK [.sl,li] a1) λ(x1:Sl×Int)=>
 sh (pE n (x0.1,x0.2) (x1.1,x1.2)) λx2=>
 if !x2.2 then
  if decide ((↑x2.1.len:Int)=0) then
   sh (bK [.sl,li] a0) λ(x3:Sl×Int)=>
   sh (bK [.sl,li] a1) λ(x4:Sl×Int)=>
   sh (jV n (x3.1,x3.2) (x4.1,x4.2)) λx5=>
   AI x5
  else
   AI false
 else
  sh (bK [.sl,li] a0) λ(x3:Sl×Int)=>
  sh (jo n (x3.1,x3.2) x2.1) λx4=>
  sh (bK [.sl,li] a1) λ(x5:Sl×Int)=>
  sh (jo n (x5.1,x5.2) x2.1) λx6=>
  if !x4.2 then
   AI false
  else
   if !x6.2 then
    AI false
   else
    gP n a0 a1 x4.1 x6.1
def lY (n:Nat)(a0:Sl×Int)(a1:Sl×Int):M (Bool):=
 sh (iB none ah [aC a0.1,vi a0.2]) λx0=>
 sh (iB none ah [aC a1.1,vi a1.2]) λx1=>
 sh (MO n) λx2=>
 if !x2 then
  AI false
 else
  sh (bK [.sl,li] (ak x0)) λ(x3:Sl×Int)=>
  sh (jX n (x3.1,x3.2)) λx4=>
  if !x4 then
   AI true
  else
   sh (bK [.sl,li] (ak x1)) λ(x5:Sl×Int)=>
   sh (jX n (x5.1,x5.2)) λx6=>
   if !x6 then
    AI true
   else
    sh (bK [.sl,li] (ak x0)) λ(x7:Sl×Int)=>
    sh (bK [.sl,li] (ak x1)) λ(x8:Sl×Int)=>
    sh (kA n (x7.1,x7.2) (x8.1,x8.2)) λx9=>
    if !x9 then
     AI true
    else
     gQ n (ak x0) (ak x1)
abbrev ana (n:Nat):dV:=eN 4 [.agg [.sl,.int .i64],.agg [.sl,.int .i64]] [jE] (lY n)
abbrev alU (n:Nat):List (iU (Bool)):=[jN [0,1,1,1] [.code [1,1,1,1]] [(2,aG),(3,aG)] (gQ n),
 jN [0,1,1,1,1,1,1,1,1] [.code [1,1,1,1,1,1,1,1,1]] [(2,aG),(3,aG),(7,az),(9,az)] (gP n)]
def vQ (n:Nat):aH Tryz.prog (ana n):=bf Tryz.f4 (js:=alU n) (hT:=.m3 (L0 n) (.cc (.cc .nil)))
end Go.Sh
