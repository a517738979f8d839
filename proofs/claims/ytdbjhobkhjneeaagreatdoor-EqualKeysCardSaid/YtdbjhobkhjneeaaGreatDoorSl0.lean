
import Derived.Test.YtdbjhobkhjneeaaGreatDoorPu
set_option linter.all false
set_option maxRecDepth 100000
set_option maxHeartbeats 0
namespace Go.Sh
open Go Go.Ago Go.Proofs
abbrev D0 (n:Nat):List dZ:=[eN 5 [] [.one (.bool)] (Mz n),eN 6 [.agg [.sl,.int .i64]] [.one (.bool)] (jX n),eN 7 [.agg [.sl,.int .i64],.agg [.sl,.int .i64]] [.one (.bool)] (kA n),eN 8 [.agg [.sl,.int .i64],.agg [.sl,.int .i64]] [.one (.bool)] (wI n),eN 9 [.agg [.sl,.int .i64],.agg [.sl,.int .i64]] [.one (.bool)] (ji n),eN 10 [.agg [.sl,.int .i64]] [.one (.str),.one (.int .i64)] (oj n),eN 11 [.agg [.sl,.int .i64],.agg [.sl,.int .i64]] [.one (.sl),.one (.bool)] (Bc n),eN 12 [.agg [.sl,.int .i64],.one (.sl)] [.one (.int .i64),.one (.bool)] (xl n),eN 13 [.agg [.sl,.int .i64],.one (.int .i64)] [.agg [.sl,.int .i64],.one (.int .i64)] (pU n),eN 16 [.agg [.sl,.int .i64]] [.one (.int .i64)] (iD n)]
def L0 (n:Nat):eY Tryz.prog (D0 n):=.cons (WB n) (.cons (BU n) (.cons (Ah n) (.cons (Jx n) (.cons (Bb n) (.cons (Eb n) (.cons (Be n) (.cons (A9 n) (.cons (D9 n) (.cons (A5 n) .nil)))))))))
def fM (n:Nat)(a0:Addr)(a1:Addr)(a2:Int)(a3:Int):M (Bool):=
 if decide (a2=0)==decide (a3=0) then
  AI true
 else
  sh (bY [.sl,li] a0) λ(x0:Sl×Int)=>
  sh (bY [.sl,li] a1) λ(x1:Sl×Int)=>
  sh (ji n (x0.1,x0.2) (x1.1,x1.2)) λx2=>
  AI !x2
def fO (n:Nat)(a0:Addr)(a1:Addr):M (Bool):=
 sh (bY [.sl,li] a0) λ(x0:Sl×Int)=>
 sh (oj n (x0.1,x0.2)) λx1=>
 sh (bY [.sl,li] a1) λ(x2:Sl×Int)=>
 sh (oj n (x2.1,x2.2)) λx3=>
 if !decide (x1.2=0) then
  fM n a0 a1 x1.2 x3.2
 else
  if !decide (x3.2=0) then
   fM n a0 a1 x1.2 x3.2
  else
   sh (bY [.sl,li] a0) λ(x4:Sl×Int)=>
   sh (bY [.sl,li] a1) λ(x5:Sl×Int)=>
   sh (ji n (x4.1,x4.2) (x5.1,x5.2)) λx6=>
   AI (x6==mM x1.1 x3.1)
def nH (n:Nat)(a0:Sl×Int)(a1:Sl×Int):M (Bool):=
 sh (iR none ah [aC a0.1,vi a0.2]) λx0=>
 sh (iR none ah [aC a1.1,vi a1.2]) λx1=>
 sh (Mz n) λx2=>
 if !x2 then
  AI false
 else
  sh (bY [.sl,li] (ak x0)) λ(x3:Sl×Int)=>
  sh (jX n (x3.1,x3.2)) λx4=>
  if !x4 then
   AI true
  else
   sh (bY [.sl,li] (ak x1)) λ(x5:Sl×Int)=>
   sh (jX n (x5.1,x5.2)) λx6=>
   if !x6 then
    AI true
   else
    sh (bY [.sl,li] (ak x0)) λ(x7:Sl×Int)=>
    sh (bY [.sl,li] (ak x1)) λ(x8:Sl×Int)=>
    sh (kA n (x7.1,x7.2) (x8.1,x8.2)) λx9=>
    if !x9 then
     AI true
    else
     sh (bY [.sl,li] (ak x0)) λ(x10:Sl×Int)=>
     sh (bY [.sl,li] (ak x1)) λ(x11:Sl×Int)=>
     sh (wI n (x10.1,x10.2) (x11.1,x11.2)) λx12=>
     if x12 then
      sh (bY [.sl,li] (ak x0)) λ(x13:Sl×Int)=>
      sh (bY [.sl,li] (ak x1)) λ(j5:Sl×Int)=>
      sh (ji n (x13.1,x13.2) (j5.1,j5.2)) λx15=>
      if !x15 then
       AI false
      else
       fO n (ak x0) (ak x1)
     else
      fO n (ak x0) (ak x1)
abbrev am0 (n:Nat):dZ:=eN 3 [.agg [.sl,.int .i64],.agg [.sl,.int .i64]] [jF] (nH n)
abbrev alH (n:Nat):List (iV (Bool)):=[jN [0,1,1,1,1] [.code [1,1,1,1,1]] [(2,aG),(3,aG)] (fO n),
 jN [0,0,1,0,1,1,1,1,1,1] [.code [1,0,1,0,1,1,1,1,1,1],.code [1,1,1,1,1,1,1]] [(2,aG),(3,aG),(6,aw),(8,aw)] (fM n)]
def w6 (n:Nat):aH Tryz.prog (am0 n):=bg Tryz.f3 (js:=alH n) (hT:=.m3 (L0 n) (.cc (.cc .nil)))
end Go.Sh
