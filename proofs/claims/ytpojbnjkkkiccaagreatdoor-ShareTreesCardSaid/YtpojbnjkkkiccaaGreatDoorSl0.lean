
import Derived.Test.YtpojbnjkkkiccaaGreatDoorPu
set_option linter.all false
set_option maxRecDepth 100000
set_option maxHeartbeats 0
namespace Go.Sh
open Go Go.Ago Go.Proofs
abbrev D0 (n:Nat):List dh:=[eN 4 [] [.one (.bool)] (Oo n),eN 5 [.agg [.sl,.int .i64]] [.one (.bool)] (mO n),eN 6 [.agg [.sl,.int .i64]] [.one (.int .i64)] (e9 n),eN 7 [.agg [.sl,.int .i64]] [.one (.bool)] (sq n),eN 8 [.agg [.sl,.int .i64]] [.one (.sl)] (oo n),eN 9 [.agg [.sl,.int .i64],.one (.int .i64)] [.agg [.sl,.int .i64],.one (.int .i64)] (qG n),eN 10 [.agg [.sl,.int .i64]] [.agg [.sl,.int .i64],.one (.int .i64)] (qF n),eN 11 [.agg [.sl,.int .i64],.agg [.sl,.int .i64]] [.one (.bool)] (oI n)]
def L0 (n:Nat):cV Tryz.prog (D0 n):=.cons (Yh n) (.cons (Dk n) (.cons (Cf n) (.cons (D2 n) (.cons (AP n) (.cons (AQ n) (.cons (AO n) (.cons (EB n) .nil)))))))
def hS (n:Nat)(a0:Addr):M (Bool):=
 gL a0 λx0=>
 sh (sq n (x0.1,x0.2)) λx1=>
 gL a0 λx2=>
 sh (oo n (x2.1,x2.2)) λx3=>
 if !x1==decide ((↑x3.len:Int)=0) then
  AI false
 else
  gL a0 λx4=>
  lS a0 0 λx5=>
  sh (qG n (x4.1,x4.2) (↑x5.len:Int)) λx6=>
  nW aj [aE,vi 0] λx7=>
  sN (ak x7) [aA x6.1.1,vi x6.1.2] λx8=>
  gL a0 λx9=>
  sh (qF n (x9.1,x9.2)) λdZ=>
  nW aj [aE,vi 0] λx11=>
  sN (ak x11) [aA dZ.1.1,vi dZ.1.2] λx12=>
  if decide (dZ.2=0) then
   if decide (x6.2=0) then
    gL (ak x7) λx13=>
    gL (ak x11) λfJ=>
    sh (oI n (x13.1,x13.2) (fJ.1,fJ.2)) λx15=>
    AI (x1==x15)
   else
    AI (x1==false)
  else
   AI false
def nh (n:Nat)(a0:Sl×Int):M (Bool):=
 nW aj [aA a0.1,vi a0.2] λx0=>
 sh (Oo n) λx1=>
 if !x1 then
  AI false
 else
  gL (ak x0) λx2=>
  sh (mO n (x2.1,x2.2)) λx3=>
  if !x3 then
   AI true
  else
   gL (ak x0) λx4=>
   sh (e9 n (x4.1,x4.2)) λx5=>
   if !decide (x5=0) then
    AI true
   else
    hS n (ak x0)
abbrev aoS (n:Nat):dh:=eN 3 [.agg [.sl,.int .i64]] [jc] (nh n)
abbrev anq (n:Nat):List (iB (Bool)):=[jN [0,1,1,1] [.code [1,1,1,1]] [(1,aw)] (hS n)]
def xP (n:Nat):aC Tryz.prog (aoS n):=aR Tryz.f3 (js:=anq n) (hT:=.m3 (L0 n) (.cc .nil))
end Go.Sh
