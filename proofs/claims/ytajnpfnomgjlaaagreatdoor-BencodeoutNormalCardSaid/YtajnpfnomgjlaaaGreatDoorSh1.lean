
import Derived.Test.YtajnpfnomgjlaaaGreatDoorMo
set_option linter.all false
set_option maxRecDepth 100000
set_option maxHeartbeats 0
namespace Go.Sh
open Go Go.Ago Go.Proofs Go.IntKind
abbrev C19 (n:Nat):List dv:=adj n::ahc n::adk n::ZE n
theorem K19 (n:Nat):eE TZp (C19 n):=.cons (DJ n) (.cons (HZ n) (.cons (KW n) (K18 n)))
def tQ (n:Nat)(a0 a1:Addr):M (Int×Int):=sh (dz 12) λx0=>sh (aE [.sl,li] a0) λ(x1:Sl×Int)=>sh (aq li (a0.plus 1)) λ(x2:Int)=>sh (aE [.sl,li] a1) λ(x3:Sl×Int)=>sh (aq li (a1.plus 1)) λ(x4:Int)=>sh (rG (x0+8) vx) λx5=>sh (k8 [some (a0.plus 1),some a1,some (a1.plus 1)] (ux n (x1.1,x1.2))) λx6=>sh (k8 [some (a0.plus 1),some (a1.plus 1)] (ux n (x3.1,x3.2))) λx7=>sh (ij n x6 x2 x7 x4 (some x5)) λx8=>AI (x8,0)
def uj (n:Nat)(a0 a1:Sl×Int):M (Int×Int):=sh (aF none aj [aI a0.1,vi a0.2]) λx0=>sh (aF none aj [aI a1.1,vi a1.2]) λx1=>sh (aE [.sl,li] (al x0)) λ(x2:Sl×Int)=>sh (dZ n (x2.1,x2.2)) λx3=>if !decide (x3=0) then AI (0,3) else sh (aE [.sl,li] (al x1)) λ(x4:Sl×Int)=>sh (dZ n (x4.1,x4.2)) λx5=>if !decide (x5=0) then AI (0,3) else sh (aE [.sl,li] (al x0)) λ(x6:Sl×Int)=>sh (qA n (x6.1,x6.2)) λx7=>if !decide (x7=0) then AI (0,14) else sh (aE [.sl,li] (al x1)) λ(x8:Sl×Int)=>sh (qA n (x8.1,x8.2)) λx9=>if !decide (x9=0) then AI (0,14) else tQ n (al x0) (al x1)
abbrev adl (n:Nat):dv:=⟨52,[.agg [.sl,.int .i64],.agg [.sl,.int .i64]],[aw,aw],υ2 (uj n)⟩
def aeX (i:Nat):Option (List (Nat×η)):=Κ i 5 (Ω [2,6,0,3,4,7,8]++[(1,[3,4,7]),(5,[3,7])]++Ω [9,10,11]) none
abbrev aeY (n:Nat):List (jm (Int×Int)):=[⟨[0,1,1,1],[.code [1,1,1,1]],[(2,aB),(3,aB)],υ2 (tQ n)⟩]
theorem DK (n:Nat):A5 (C19 n) [40]:=A5.one (e:=Ww n) (λx=>H0 n x) (Gp (by kernel_rfl))
theorem DN (n:Nat):aK TZp (adl n):=bw Tryz.f52 (C19 n) (mo:=[40]) (dr:=aeX) (js:=aeY n) (hT:=⟨(DK n),K19 n,.nil,.nil,(.cc .nil)⟩)
abbrev C20 (n:Nat):List dv:=adl n::C19 n
theorem K20 (n:Nat):eE TZp (C20 n):=.cons (DN n) (K19 n)
def sF (n:Nat)(a0 a1:Int)(a2:Addr):M Bool:=sh (aq .sl a2) λ(x0:Sl)=>sh (ar x0 a0 2) λx1=>sh (aE [.sl,li] x1) λ(x2:Sl×Int)=>sh (aq .sl a2) λ(x3:Sl)=>sh (ar x3 a1 2) λx4=>sh (aE [.sl,li] x4) λ(x5:Sl×Int)=>sh (uj n (x2.1,x2.2) (x5.1,x5.2)) λx6=>AI (decide (x6.1<0))
abbrev adm (n:Nat):dv:=⟨51,[aw,aw,aB],[lS],υ3 (sF n)⟩
def aeZ (i:Nat):Option (List (Nat×η)):=Κ i 1 (Ω [1,5,0,2,3,4,6,7,8,9,10,11,12,13]) none
theorem wN (n:Nat):aK TZp (adm n):=bw Tryz.f51 (C20 n) (dr:=aeZ) (hT:=.m1 (K20 n))
abbrev C21 (n:Nat):List dv:=adm n::C20 n
theorem K21 (n:Nat):eE TZp (C21 n):=.cons (wN n) (K20 n)
structure bP where
 jQ:Sl->ξ->Sl->Sl->Int->Int->M Unit
 oJ:Sl->ξ->M Unit
def sG (G:bP)(n:Nat)(x:ξ)(a0 a1:Int):M Bool:=if qo tC x then sh (k7 [aB] x) λ(c:Addr)=>sF n a0 a1 c else AS
def kF (G:bP)(n:Nat)(a0:Sl)(a1:ξ)(a2 a3:Sl)(a4 a5 a6:Int):M Unit:=sh (ar a2 0 1) λx0=>sh (aq li x0) λ(x1:Int)=>sh (ar a0 a4 1) λx2=>sh (gm a2 1 (a2.len:Int) an 1) λx3=>sh (k8 [a2.a] (bh x2 [vi x1])) λx4=>G.jQ a0 a1 x3 a3 a5 (i64.wrap (a6+1))
def kG (G:bP)(n:Nat)(a0:Sl)(a1:ξ)(a2 a3:Sl)(a4 a5 a6:Int):M Unit:=sh (ar a3 0 1) λx0=>sh (aq li x0) λ(x1:Int)=>sh (ar a0 a4 1) λx2=>sh (gm a3 1 (a3.len:Int) an 1) λx3=>sh (k8 [a3.a] (bh x2 [vi x1])) λx4=>G.jQ a0 a1 a2 x3 a5 (i64.wrap (a6+1))
def tS (G:bP)(n:Nat)(a0:Sl)(a1:ξ)(a2 a3:Sl)(a4 a5:Int):M Unit:=if decide (a5<a4) then if decide ((a3.len:Int)=0) then kF G n a0 a1 a2 a3 a5 a4 a5 else if decide (0<(a2.len:Int)) then sh (ar a3 0 1) λx0=>sh (ar a2 0 1) λx1=>sh (aq li x0) λ(x2:Int)=>sh (aq li x1) λ(x3:Int)=>sh (sG G n a1 x2 x3) λx4=>if !x4 then kF G n a0 a1 a2 a3 a5 a4 a5 else kG G n a0 a1 a2 a3 a5 a4 a5 else kG G n a0 a1 a2 a3 a5 a4 a5 else AI ()
def xa (G:bP)(n:Nat)(a0:Sl)(a1:ξ):M Unit:=if decide ((a0.len:Int)<2) then AI () else sh (aF none an []) λx0=>sh (px (decide (2≠0))) λx1=>sh (gm a0 0 (i64.wrap ((a0.len:Int).tdiv 2)) an 1) λx2=>sh (BW x2 1) λx3=>sh (app false { a:=some (al x0),len:=0,cap:=1 } 1 3 x2.len x3) λx4=>sh (aF none an []) λx5=>sh (px (decide (2≠0))) λx6=>sh (gm a0 (i64.wrap ((a0.len:Int).tdiv 2)) (a0.len:Int) an 1) λx7=>sh (BW x7 1) λx8=>sh (app false { a:=some (al x5),len:=0,cap:=1 } 1 3 x7.len x8) λx9=>sh (G.oJ x4 a1) λfD=>sh (G.oJ x9 a1) λx11=>sh (G.jQ a0 a1 x4 x9 (a0.len:Int) 0) λx12=>AI ()
def bP.at:Nat->bP|0=>⟨λ_ _ _ _ _ _=>AS,λ_ _=>AS⟩|n+1=>⟨tS (bP.at n) n,xa (bP.at n) n⟩
def jQ (n:Nat):=(bP.at n).jQ
theorem AV (n:Nat):jQ (n+1)=tS (bP.at n) n:=rfl
def oJ (n:Nat):=(bP.at n).oJ
theorem DO (n:Nat):oJ (n+1)=xa (bP.at n) n:=rfl
def o9 (n:Nat):=sG (bP.at n) n
def Cv (n:Nat):=kG (bP.at n) n
def Cw (n:Nat):=kF (bP.at n) n
abbrev XI (n:Nat):dv:=⟨50,[cw,th],[],υ2 (oJ n)⟩
abbrev KX:L1:=⟨[0,1,1,1,1,1,1],[(0,cw),(1,th),(4,cw),(5,cw),(31,aw),(32,aw)],[],[4,5,6]++List.range' 32 39,0,λn=>υ6 (jQ n)⟩
abbrev C22 (n:Nat):List dv:=XI n::C21 n
abbrev PJ (n:Nat):List oZ:=[⟨43,[aw,aw],[lS],λx a=>o9 n x a.1 a.2⟩]
def XJ (i:Nat):Option (List (Nat×η)):=Κ i 8 (Ω [0,1,2,3,4,5,6,7,8,9,10,12,13,11,14,15,16,17,18]) (Κ i 9 (Ω [0,1,2,3,5,4,7,6]++[(8,[6])]++Ω [9]) (Κ i 10 (Ω [0,1,2,3,5,4,7,6]++[(8,[6])]++Ω [9]) none))
abbrev Ub (n:Nat):List (jm Unit):=[⟨[1,1,1,0,0,1,1,0,0,1,1,1,1,1,1],[.au 1,.code [1,1,1,0,0,1,1,1,1,1,1]],[(0,cw),(1,th),(4,cw),(5,cw),(6,aw),(31,aw),(32,aw)],υ7 (Cv n)⟩, ⟨[0,1,1,0,0,1,1,0,0,1,1,1,1,1,1],[.au 1,.code [1,1,1,0,0,1,1,1,1,1,1]],[(0,cw),(1,th),(4,cw),(5,cw),(6,aw),(31,aw),(32,aw)],υ7 (Cw n)⟩]
def qD (n:Nat):Prop:=aK TZp (XI n)
theorem XK (n:Nat)(H:qD n):eE TZp (C22 n):=.cons H (K21 n)
theorem XL (n:Nat)(H:qD n):pK TZp (PJ n):=.cons (cS (l:=[⟨51,[aB],λa c=>sF n a.1 a.2 c⟩]) (.cons (λa c=>aD (by kernel_rfl) ((wN n) (a.1,a.2,c))) .nil) (λx a=>by kernel_rfl)) .nil
theorem Uc (n:Nat)(H:∀m,m<n->qD m):lA TZp Tryz.f50 (KX.e n) KX.ws:=L1.ok Tryz.f50 KX n C22 (dt:=PJ) (dr:=XJ) (jt:=Ub) (hT:=λm hm=>⟨.nil,XK m (H m hm),(XL m (H m hm)),.nil,(.cc (.cc .nil))⟩)
theorem AW (n:Nat)(H:∀m,m<n+1->qD m):aK TZp (XI (n+1)):=bw Tryz.f50 (C22 n) (dl:=PJ n) (ll:=[KX.e n]) (dr:=XJ) (hT:=⟨.nil,XK n (H n (IT n)),(XL n (H n (IT n))),(.cc (Uc n (λk hk=>H k (adf hk))) .nil),.nil⟩)
theorem Cy:∀n m,m<n->qD m:=by
 intro n
 induction n with
 |zero=>intro m hm;exact absurd hm (ahR m)
 |succ n ih=>
  intro m hm;cases m with
  |zero=>exact gf (fn:=Tryz.f50) (by kernel_rfl) (by kernel_rfl) (by kernel_rfl) (λ_=>rfl)
  |succ k=>exact AW k λm hm=>ih m (by omega)
theorem K22 (n:Nat):eE TZp (C22 n):=XK n (Cy (n+1) n (IT n))
def sH (G:Addr->Sl->Addr->Sl->Int->Int->M Unit)(n:Nat)(a0:Addr)(a1:Sl)(a2:Addr)(a3:Sl)(a4 a5:Int):M Unit:=if decide (a5<a4) then sh (ar a3 a5 1) λx0=>sh (aq li x0) λ(x1:Int)=>sh (aq .sl a2) λ(x2:Sl)=>sh (aE [.sl,li] a0) λ(x3:Sl×Int)=>sh (k8 [some a2] (Ak n (x3.1,x3.2) x1)) λx4=>sh (ar x2 a5 2) λx5=>sh (bh x5 [aI x4.1,vi x4.2]) λx6=>G a0 a1 a2 a3 a4 (i64.wrap (a5+1)) else AI ()
def mA:Nat->Addr->Sl->Addr->Sl->Int->Int->M Unit|0=>λ_ _ _ _ _ _=>AS|n+1=>sH (mA n) n
theorem zR (n:Nat):mA (n+1)=sH (mA n) n:=rfl
def sI (G:Addr->Addr->Sl->Int->Int->M Unit)(n:Nat)(a0 a1:Addr)(a2:Sl)(a3 a4:Int):M Unit:=if decide (a4<a3) then sh (ar a2 a4 1) λx0=>sh (bh x0 [vi a4]) λx1=>G a0 a1 a2 a3 (i64.wrap (a4+1)) else AI ()
def mB:Nat->Addr->Addr->Sl->Int->Int->M Unit|0=>λ_ _ _ _ _=>AS|n+1=>sI (mB n) n
theorem zS (n:Nat):mB (n+1)=sI (mB n) n:=rfl
def uP (n:Nat)(a0 a1:Addr)(a2:Sl):M Sl:=sh (aq .sl (a1.plus 3)) λ(x0:Sl)=>sh (qM none aj [aO,vi 0] (x0.len:Int) (x0.len:Int)) λx1=>sh (aF none iz [aO]) λx2=>sh (bh (al x2) [aI x1]) λx3=>sh (aq .sl (a1.plus 3)) λ(x4:Sl)=>sh (mA n a0 a2 (al x2) x4 (x4.len:Int) 0) λx5=>sh (oJ n a2 (Value.func (Fn.func tC) #[] #[.pointer (some (al x2))])) λx6=>AI a2
def sJ (n:Nat)(a0:Sl×Int)(a1:Int):M Sl:=sh (aF none aj [aI a0.1,vi a0.2]) λx0=>sh (aq .sl ((al x0).plus 0)) λ(x1:Sl)=>sh (ar x1 a1 5) λx2=>sh (aE [li,.str,.bool,.sl,.sl] x2) λ(x3:Int×ζ×Bool×Sl×Sl)=>sh (aF none aA [vi 0,.string (ofBytes []),.bool false,aO,aO]) λx4=>sh (bh (al x4) [vi x3.1,.string x3.2.1,.bool x3.2.2.1,aI x3.2.2.2.1,aI x3.2.2.2.2]) λx5=>sh (aq .sl ((al x4).plus 4)) λ(x6:Sl)=>sh (qM none an [vi 0] (x6.len:Int) (x6.len:Int)) λx7=>sh (mB n (al x0) (al x4) x7 (x7.len:Int) 0) λx8=>sh (aq li ((al x4).plus 0)) λ(x9:Int)=>if !decide (x9=10) then AI x7 else sh (aq .bool ((al x4).plus 2)) λ(fD:Bool)=>if fD then AI x7 else uP n (al x0) (al x4) x7
abbrev ado (n:Nat):dv:=⟨31,[.agg [.sl,.int .i64],aw],[cw],υ2 (sJ n)⟩
abbrev KZ:L1:=⟨[0,1,0,1,1,1],[(2,aB),(5,aB),(6,cw),(21,aw),(22,aw)],[],[7]++List.range' 22 8,0,λn=>υ5 (mB n)⟩
abbrev La:L1:=⟨[0,1,0,1,1,1,1,1,1],[(2,aB),(6,cw),(8,aB),(43,cw),(44,aw),(45,aw)],[],[9,10]++List.range' 45 12,2,λn=>υ6 (mA n)⟩
def PK (i:Nat):Option (List (Nat×η)):=Κ i 14 (Ω [1,3,0,2]++[(4,[0])]++Ω [5,6]) none
abbrev ae0 (n:Nat):List (jm Sl):=[⟨[0,1,1,1,1,1],[.code [1,1,1,1,1,1]],[(2,aB),(5,aB),(6,cw)],υ3 (uP n)⟩]
theorem Ud (n:Nat):lA TZp Tryz.f31 (La.e n) La.ws:=L1.ok Tryz.f31 La n C22 (dr:=PK) (hT:=λm _=>.m1 (K22 m))
theorem Ue (n:Nat):lA TZp Tryz.f31 (KZ.e n) KZ.ws:=L1.ok Tryz.f31 KZ n C22 (dr:=PK) (hT:=λm _=>.m1 (K22 m))
theorem E8 (n:Nat):aK TZp (ado n):=bw Tryz.f31 (C22 n) (ll:=[KZ.e n,La.e n]) (dr:=PK) (js:=ae0 n) (hT:=⟨.nil,K22 n,.nil,(.cc (Ue n) (.cc (Ud n) .nil)),(.cc .nil)⟩)
abbrev C23 (n:Nat):List dv:=ado n::C22 n
theorem K23 (n:Nat):eE TZp (C23 n):=.cons (E8 n) (K22 n)
structure bA where
 iJ:Addr->Addr->Int->Int->M Int
 fC:Int->Addr->Addr->Addr->Addr->Addr->Sl->Int->Int->M (Unit⊕Bool)
 iK:Int->Addr->Addr->Addr->Addr->Addr->M Bool
def pQ (G:bA)(n:Nat)(x:ξ)(a0:Int):M Bool:=if qo p6 x then sh (k7 [aB,aB,aB,aB,aB] x) λ(c:Addr×Addr×Addr×Addr×Addr)=>G.iK a0 c.1 c.2.1 c.2.2.1 c.2.2.2.1 c.2.2.2.2 else AS
def ql (G:bA)(n:Nat)(a0 a1:Addr)(a2 a3:Int):M Int:=sh (aq .sl a0) λ(x0:Sl)=>sh (ar x0 a3 1) λx1=>sh (aq li x1) λ(x2:Int)=>if !decide (x2=a2) then G.iJ a0 a1 a2 (i64.wrap (a3-1)) else AI a3
def qm (G:bA)(n:Nat)(a0:Int)(a1 a2 a3 a4 a5:Addr)(a6:Sl)(a7 a8:Int):M (Unit⊕Bool):=if decide (a8<a7) then sh (ar a6 a8 1) λx0=>sh (aq li x0) λ(x1:Int)=>sh (aq .sl (a3.plus 0)) λ(x2:Sl)=>sh (ar x2 a0 5) λx3=>sh (aq .sl (x3.plus 4)) λ(x4:Sl)=>sh (ar x4 x1 1) λx5=>sh (aq li x5) λ(x6:Int)=>sh (aq .sl a1) λ(x7:Sl)=>sh (ar x7 x6 1) λx8=>sh (aq li x8) λ(x9:Int)=>if decide (x9=1) then sh (aq .sl a2) λ(fD:Sl)=>sh (G.iJ a2 a4 x6 (i64.wrap ((fD.len:Int)-1))) λx11=>sh (aF none an []) λx12=>sh (aq .sl a2) λ(x13:Sl)=>sh (gm x13 x11 (x13.len:Int) an 1) λjj=>sh (BW jj 1) λx15=>sh (app false { a:=some (al x12),len:=0,cap:=1 } 1 3 jj.len x15) λrz=>sh (bh a4 [aI rz]) λx17=>AI (Sum.inr true) else sh (aq .sl a1) λ(fD:Sl)=>sh (ar fD x6 1) λx11=>sh (aq li x11) λ(x12:Int)=>if decide (x12=0) then sh (aq .raw a5) λ(x13:ξ)=>sh (pQ G n x13 x6) λjj=>if jj then AI (Sum.inr true) else G.fC a0 a1 a2 a3 a4 a5 a6 a7 (i64.wrap (a8+1)) else G.fC a0 a1 a2 a3 a4 a5 a6 a7 (i64.wrap (a8+1)) else AI (Sum.inl ())
def tT (G:bA)(n:Nat)(a0:Int)(a1 a2 a3 a4 a5:Addr):M Bool:=sh (aq .sl a1) λ(x0:Sl)=>sh (ar x0 a0 1) λx1=>sh (bh x1 [vi 1]) λx2=>sh (aq .sl a2) λ(x3:Sl)=>sh (app false x3 1 an 1 [vi a0]) λx4=>sh (bh a2 [aI x4]) λx5=>sh (aE [.sl,li] a3) λ(x6:Sl×Int)=>sh (sJ n (x6.1,x6.2) a0) λx7=>sh (G.fC a0 a1 a2 a3 a4 a5 x7 (x7.len:Int) 0) (cz (λx8=>sh (aq .sl a1) λ(x9:Sl)=>sh (ar x9 a0 1) λfD=>sh (bh fD [vi 2]) λx11=>sh (aq .sl a2) λ(x12:Sl)=>sh (aq .sl a2) λ(x13:Sl)=>sh (gm x12 0 (i64.wrap ((x13.len:Int)-1)) an 1) λjj=>sh (bh a2 [aI jj]) λx15=>AI false) (λx8=>AI x8))
def bA.at:Nat->bA|0=>⟨λ_ _ _ _=>AS,λ_ _ _ _ _ _ _ _ _=>AS,λ_ _ _ _ _ _=>AS⟩|n+1=>⟨ql (bA.at n) n,qm (bA.at n) n,tT (bA.at n) n⟩
def iJ (n:Nat):=(bA.at n).iJ
theorem yr (n:Nat):iJ (n+1)=ql (bA.at n) n:=rfl
def fC (n:Nat):=(bA.at n).fC
theorem yu (n:Nat):fC (n+1)=qm (bA.at n) n:=rfl
def iK (n:Nat):=(bA.at n).iK
theorem AX (n:Nat):iK (n+1)=tT (bA.at n) n:=rfl
def BJ (n:Nat):=pQ (bA.at n) n
abbrev Q7 (n:Nat):dv:=⟨30,[aw,aB,aB,aB,aB,aB],[lS],υ6 (iK n)⟩
abbrev Lb:L2:=⟨[0,1,0,1,1,1],[(0,aw),(1,aB),(2,aB),(3,aB),(4,aB),(5,aB),(21,cw),(22,aw),(23,aw)],[],[(7,lS)],[7,9,10,11]++List.range' 23 45,0,.ret,λn=>υ9 (fC n)⟩
abbrev Lc:L1:=⟨[0,0,1,0,1,0,1,1,0,0,1,1,0,0,1,0,1,1,1],[(2,aB),(4,aB),(10,aw),(11,aw)],[(11,aw)],[11]++List.range' 44 8,2,λn=>υ4 (iJ n)⟩
abbrev C24 (n:Nat):List dv:=Q7 n::C23 n
abbrev Ld (n:Nat):List oZ:=[⟨63,[aw],[lS],λx a=>BJ n x a⟩]
def lv (n:Nat):Prop:=aK TZp (Q7 n)
theorem Q8 (n:Nat)(H:lv n):eE TZp (C24 n):=.cons H (K23 n)
theorem PL (n:Nat)(H:lv n):pK TZp (Ld n):=.cons (cS (l:=[⟨30,[aB,aB,aB,aB,aB],λa c=>iK n a c.1 c.2.1 c.2.2.1 c.2.2.2.1 c.2.2.2.2⟩]) (.cons (λa c=>aD (by kernel_rfl) ((H) (a,c.1,c.2.1,c.2.2.1,c.2.2.2.1,c.2.2.2.2))) .nil) (λx a=>by kernel_rfl)) .nil
theorem Uf (n:Nat)(H:∀m,m<n->lv m):lA TZp Tryz.f30 (Lc.e n) Lc.ws:=L1.ok Tryz.f30 Lc n C24 (dt:=Ld) (hT:=λm hm=>⟨.nil,Q8 m (H m hm),(PL m (H m hm)),.nil,.nil⟩)
theorem Ug (n:Nat)(H:∀m,m<n->lv m):lA TZp Tryz.f30 (Lb.e n) Lb.ws:=L2.ok Tryz.f30 Lb n C24 (dt:=Ld) (lt:=λn=>[Lc.e n]) (hT:=λm hm=>⟨.nil,Q8 m (H m hm),(PL m (H m hm)),(.cc (Uf m (λk hk=>H k (ah4 hk hm))) .nil),.nil⟩)
theorem yv (n:Nat)(H:∀m,m<n+1->lv m):aK TZp (Q7 (n+1)):=bw Tryz.f30 (C24 n) (dl:=Ld n) (ll:=[Lb.e n]) (hT:=⟨.nil,Q8 n (H n (IT n)),(PL n (H n (IT n))),(.cc (Ug n (λk hk=>H k (adf hk))) .nil),.nil⟩)
theorem uF:∀n m,m<n->lv m:=by
 intro n
 induction n with
 |zero=>intro m hm;exact absurd hm (ahR m)
 |succ n ih=>
  intro m hm;cases m with
  |zero=>exact gf (fn:=Tryz.f30) (by kernel_rfl) (by kernel_rfl) (by kernel_rfl) (λ_=>rfl)
  |succ k=>exact yv k λm hm=>ih m (by omega)
theorem Cz (n:Nat):aK TZp (Q7 n):=(uF (n+1) n (IT n))
theorem K24 (n:Nat):eE TZp (C24 n):=Q8 n (uF (n+1) n (IT n))
structure dw where
 fT:Int->Addr->Addr->Addr->Sl->Int->Int->M Unit
 ju:Int->Addr->Addr->Addr->Addr->Addr->M Unit
def qn (G:dw)(n:Nat)(x:ξ)(a0:Int):M Unit:=if qo qH x then sh (k7 [aB,aB,aB,aB,aB] x) λ(c:Addr×Addr×Addr×Addr×Addr)=>G.ju a0 c.1 c.2.1 c.2.2.1 c.2.2.2.1 c.2.2.2.2 else AS
def qX (G:dw)(n:Nat)(a0:Int)(a1 a2 a3:Addr)(a4:Sl)(a5 a6:Int):M Unit:=if decide (a6<a5) then sh (ar a4 a6 1) λx0=>sh (aq li x0) λ(x1:Int)=>sh (aq .sl a1) λ(x2:Sl)=>sh (aq .sl (a2.plus 0)) λ(x3:Sl)=>sh (ar x3 a0 5) λx4=>sh (aq .sl (x4.plus 4)) λ(x5:Sl)=>sh (ar x5 x1 1) λx6=>sh (aq li x6) λ(x7:Int)=>sh (ar x2 x7 1) λx8=>sh (aq .bool x8) λ(x9:Bool)=>if !x9 then sh (aq .raw a3) λ(fD:ξ)=>sh (aq .sl (a2.plus 0)) λ(x11:Sl)=>sh (ar x11 a0 5) λx12=>sh (aq .sl (x12.plus 4)) λ(x13:Sl)=>sh (ar x13 x1 1) λjj=>sh (aq li jj) λ(x15:Int)=>sh (qn G n fD x15) λrz=>G.fT a0 a1 a2 a3 a4 a5 (i64.wrap (a6+1)) else G.fT a0 a1 a2 a3 a4 a5 (i64.wrap (a6+1)) else AI ()
def uQ (G:dw)(n:Nat)(a0:Int)(a1 a2 a3 a4 a5:Addr):M Unit:=sh (aq .sl a1) λ(x0:Sl)=>sh (ar x0 a0 1) λx1=>sh (bh x1 [.bool true]) λx2=>sh (aq .sl a2) λ(x3:Sl)=>sh (app false x3 1 an 1 [vi a0]) λx4=>sh (bh a2 [aI x4]) λx5=>sh (aq .sl a4) λ(x6:Sl)=>sh (aE [.sl,li] a3) λ(x7:Sl×Int)=>sh (k8 [some a4] (sJ n (x7.1,x7.2) a0)) λx8=>sh (ar x6 a0 1) λx9=>sh (bh x9 [aI x8]) λfD=>sh (aq .sl a4) λ(x11:Sl)=>sh (ar x11 a0 1) λx12=>sh (aq .sl x12) λ(x13:Sl)=>sh (G.fT a0 a1 a3 a5 x13 (x13.len:Int) 0) λjj=>AI ()
def dw.at:Nat->dw|0=>⟨λ_ _ _ _ _ _ _=>AS,λ_ _ _ _ _ _=>AS⟩|n+1=>⟨qX (dw.at n) n,uQ (dw.at n) n⟩
def fT (n:Nat):=(dw.at n).fT
theorem yY (n:Nat):fT (n+1)=qX (dw.at n) n:=rfl
def ju (n:Nat):=(dw.at n).ju
theorem BK (n:Nat):ju (n+1)=uQ (dw.at n) n:=rfl
def CA (n:Nat):=qn (dw.at n) n
abbrev Q9 (n:Nat):dv:=⟨73,[aw,aB,aB,aB,aB,aB],[],υ6 (ju n)⟩
abbrev Le:L1:=⟨[0,1,1,1,1],[(0,aw),(1,aB),(3,aB),(5,aB),(25,cw),(26,aw),(27,aw)],[],[8]++List.range' 27 29,0,λn=>υ7 (fT n)⟩
abbrev C25 (n:Nat):List dv:=Q9 n::C24 n
abbrev PM (n:Nat):List oZ:=[⟨44,[aw],[],λx a=>CA n x a⟩]
def XM (i:Nat):Option (List (Nat×η)):=Κ i 2 (Ω [1,3,0,2]++[(4,[0])]++Ω [5,6]) (Κ i 6 (Ω [1,3,7,0,2,4,5,6,8,9,10,11,12]) (Κ i 7 (Ω [1,3,7,0,2,4,5,6,8,9,10]) none))
def pc (n:Nat):Prop:=aK TZp (Q9 n)
theorem XN (n:Nat)(H:pc n):eE TZp (C25 n):=.cons H (K24 n)
theorem XO (n:Nat)(H:pc n):pK TZp (PM n):=.cons (cS (l:=[⟨73,[aB,aB,aB,aB,aB],λa c=>ju n a c.1 c.2.1 c.2.2.1 c.2.2.2.1 c.2.2.2.2⟩]) (.cons (λa c=>aD (by kernel_rfl) ((H) (a,c.1,c.2.1,c.2.2.1,c.2.2.2.1,c.2.2.2.2))) .nil) (λx a=>by kernel_rfl)) .nil
theorem Uh (n:Nat)(H:∀m,m<n->pc m):lA TZp Tryz.f73 (Le.e n) Le.ws:=L1.ok Tryz.f73 Le n C25 (dt:=PM) (dr:=XM) (hT:=λm hm=>⟨.nil,XN m (H m hm),(XO m (H m hm)),.nil,.nil⟩)
theorem yZ (n:Nat)(H:∀m,m<n+1->pc m):aK TZp (Q9 (n+1)):=bw Tryz.f73 (C25 n) (dl:=PM n) (ll:=[Le.e n]) (dr:=XM) (hT:=⟨.nil,XN n (H n (IT n)),(XO n (H n (IT n))),(.cc (Uh n (λk hk=>H k (adf hk))) .nil),.nil⟩)
theorem uV:∀n m,m<n->pc m:=by
 intro n
 induction n with
 |zero=>intro m hm;exact absurd hm (ahR m)
 |succ n ih=>
  intro m hm;cases m with
  |zero=>exact gf (fn:=Tryz.f73) (by kernel_rfl) (by kernel_rfl) (by kernel_rfl) (λ_=>rfl)
  |succ k=>exact yZ k λm hm=>ih m (by omega)
theorem DP (n:Nat):aK TZp (Q9 n):=(uV (n+1) n (IT n))
theorem K25 (n:Nat):eE TZp (C25 n):=XN n (uV (n+1) n (IT n))
def tU (n:Nat)(x:ξ)(a0:Int):M Bool:=if qo p6 x then sh (k7 [aB,aB,aB,aB,aB] x) λ(c:Addr×Addr×Addr×Addr×Addr)=>iK n a0 c.1 c.2.1 c.2.2.1 c.2.2.2.1 c.2.2.2.2 else AS
def vh (n:Nat)(a0:Sl×Int):M (Sl×Bool):=sh (aF none aj [aI a0.1,vi a0.2]) λx0=>sh (aE [.sl,li] (al x0)) λ(x1:Sl×Int)=>sh (dZ n (x1.1,x1.2)) λx2=>if !decide (x2=0) then AI (qQ,false) else sh (aq .sl ((al x0).plus 0)) λ(x3:Sl)=>sh (qM none an [vi 0] (x3.len:Int) (x3.len:Int)) λx4=>sh (aF none aR [aO]) λx5=>sh (bh (al x5) [aI x4]) λx6=>sh (aF none aR [aO]) λx7=>sh (aF none aR [aO]) λx8=>sh (aF none zm [Value.nilFunc]) λx9=>sh (bh (al x9) [.func (Fn.func p6) #[] #[.pointer (some (al x5)),.pointer (some (al x7)),.pointer (some (al x0)),.pointer (some (al x8)),.pointer (some (al x9))]]) λfD=>sh (aq .raw (al x9)) λ(x11:ξ)=>sh (aq li ((al x0).plus 1)) λ(x12:Int)=>sh (tU n x11 x12) λx13=>sh (aq .sl (al x8)) λ(jj:Sl)=>AI (jj,x13)
abbrev adp (n:Nat):dv:=⟨13,[.agg [.sl,.int .i64]],[cw,lS],λx=>vh n x⟩
abbrev XP (n:Nat):List oZ:=[⟨17,[aw],[lS],λx a=>tU n x a⟩]
theorem ae2 (n:Nat):pK TZp (XP n):=.cons (cS (l:=[⟨30,[aB,aB,aB,aB,aB],λa c=>iK n a c.1 c.2.1 c.2.2.1 c.2.2.2.1 c.2.2.2.2⟩]) (.cons (λa c=>aD (by kernel_rfl) ((Cz n) (a,c.1,c.2.1,c.2.2.1,c.2.2.2.1,c.2.2.2.2))) .nil) (λx a=>by kernel_rfl)) .nil
theorem E9 (n:Nat):aK TZp (adp n):=bw Tryz.f13 (C25 n) (dl:=XP n) (hT:=⟨.nil,K25 n,(ae2 n),.nil,.nil⟩)
def uR (n:Nat)(x:ξ)(a0:Int):M Unit:=if qo qH x then sh (k7 [aB,aB,aB,aB,aB] x) λ(c:Addr×Addr×Addr×Addr×Addr)=>ju n a0 c.1 c.2.1 c.2.2.1 c.2.2.2.1 c.2.2.2.2 else AS
def wO (n:Nat)(a0:Sl×Int):M (Sl×Sl):=sh (aF none aj [aI a0.1,vi a0.2]) λx0=>sh (aq .sl ((al x0).plus 0)) λ(x1:Sl)=>sh (qM none aR [aO] (x1.len:Int) (x1.len:Int)) λx2=>sh (aF none Eo [aO]) λx3=>sh (bh (al x3) [aI x2]) λx4=>sh (aq .sl ((al x0).plus 0)) λ(x5:Sl)=>sh (qM none Bp [.bool false] (x5.len:Int) (x5.len:Int)) λx6=>sh (aF none vw [aO]) λx7=>sh (bh (al x7) [aI x6]) λx8=>sh (aF none aR [aO]) λx9=>sh (aF none tB [Value.nilFunc]) λfD=>sh (bh (al fD) [.func (Fn.func qH) #[] #[.pointer (some (al x7)),.pointer (some (al x9)),.pointer (some (al x0)),.pointer (some (al x3)),.pointer (some (al fD))]]) λx11=>sh (aq .raw (al fD)) λ(x12:ξ)=>sh (aq li ((al x0).plus 1)) λ(x13:Int)=>sh (uR n x12 x13) λjj=>sh (aq .sl (al x9)) λ(x15:Sl)=>sh (aq .sl (al x3)) λ(rz:Sl)=>AI (x15,rz)
abbrev adq (n:Nat):dv:=⟨53,[.agg [.sl,.int .i64]],[cw,cw],λx=>wO n x⟩
abbrev XQ (n:Nat):List oZ:=[⟨17,[aw],[],λx a=>uR n x a⟩]
def ae3 (i:Nat):Option (List (Nat×η)):=Κ i 7 (Ω [0,2,1,3]) none
theorem ae4 (n:Nat):pK TZp (XQ n):=.cons (cS (l:=[⟨73,[aB,aB,aB,aB,aB],λa c=>ju n a c.1 c.2.1 c.2.2.1 c.2.2.2.1 c.2.2.2.2⟩]) (.cons (λa c=>aD (by kernel_rfl) ((DP n) (a,c.1,c.2.1,c.2.2.1,c.2.2.2.1,c.2.2.2.2))) .nil) (λx a=>by kernel_rfl)) .nil
theorem GW (n:Nat):aK TZp (adq n):=bw Tryz.f53 (C25 n) (dl:=XQ n) (dr:=ae3) (hT:=⟨.nil,K25 n,(ae4 n),.nil,.nil⟩)
abbrev C26 (n:Nat):List dv:=adp n::adq n::C25 n
theorem K26 (n:Nat):eE TZp (C26 n):=.cons (E9 n) (.cons (GW n) (K25 n))
def sK (G:Sl->Sl->Sl->Int->Int->M Sl)(n:Nat)(a0 a1 a2:Sl)(a3 a4:Int):M Sl:=if decide (a4<a3) then sh (ar a2 a4 1) λx0=>sh (aq li x0) λ(x1:Int)=>sh (ar a0 x1 1) λx2=>sh (aq li x2) λ(x3:Int)=>if decide (1<x3) then sh (app false a1 1 an 1 [vi x1]) λx4=>G a0 x4 a2 a3 (i64.wrap (a4+1)) else G a0 a1 a2 a3 (i64.wrap (a4+1)) else AI a1
def mC:Nat->Sl->Sl->Sl->Int->Int->M Sl|0=>λ_ _ _ _ _=>AS|n+1=>sK (mC n) n
theorem zT (n:Nat):mC (n+1)=sK (mC n) n:=rfl
def vj (n:Nat)(a0:Sl×Int):M Sl:=sh (aF none aj [aI a0.1,vi a0.2]) λx0=>sh (aE [.sl,li] (al x0)) λ(x1:Sl×Int)=>sh (dZ n (x1.1,x1.2)) λx2=>if !decide (x2=0) then AI qQ else sh (aE [.sl,li] (al x0)) λ(x3:Sl×Int)=>sh (wO n (x3.1,x3.2)) λx4=>sh (aE [.sl,li] (al x0)) λ(x5:Sl×Int)=>sh (u9 n (x5.1,x5.2)) λx6=>sh (mC n x6 qQ x4.1 (x4.1.len:Int) 0) λx7=>AI x7
abbrev adt (n:Nat):dv:=⟨32,[.agg [.sl,.int .i64]],[cw],λx=>vj n x⟩
abbrev Lf:L1:=⟨[0,1,0,1,1,1,1,1],[(5,cw),(6,cw),(19,cw),(20,aw),(21,aw)],[(6,cw)],[6,8]++List.range' 21 14,0,λn=>υ5 (mC n)⟩
theorem Ui (n:Nat):lA TZp Tryz.f32 (Lf.e n) Lf.ws:=L1.ok Tryz.f32 Lf n C26 (hT:=λm _=>.m1 (K26 m))
theorem Fa (n:Nat):aK TZp (adt n):=bw Tryz.f32 (C26 n) (ll:=[Lf.e n]) (hT:=⟨.nil,K26 n,.nil,(.cc (Ui n) .nil),.nil⟩)
abbrev C27 (n:Nat):List dv:=adt n::C26 n
theorem K27 (n:Nat):eE TZp (C27 n):=.cons (Fa n) (K26 n)
def yw (n:Nat)(a0:Sl×Int):M Bool:=sh (aF none aj [aI a0.1,vi a0.2]) λx0=>sh (aE [.sl,li] (al x0)) λ(x1:Sl×Int)=>sh (dZ n (x1.1,x1.2)) λx2=>if decide (x2=0) then sh (aE [.sl,li] (al x0)) λ(x3:Sl×Int)=>sh (vj n (x3.1,x3.2)) λx4=>AI (decide ((x4.len:Int)=0)) else AI false
abbrev adu (n:Nat):dv:=⟨14,[.agg [.sl,.int .i64]],[lS],λx=>yw n x⟩
theorem H2 (n:Nat):aK TZp (adu n):=bw Tryz.f14 (C27 n) (hT:=.m1 (K27 n))
abbrev C28 (n:Nat):List dv:=adu n::C27 n
theorem K28 (n:Nat):eE TZp (C28 n):=.cons (H2 n) (K27 n)
def eD (n:Nat)(a0:Sl×Int):M (ζ×Int):=sh (aF none aj [aI a0.1,vi a0.2]) λx0=>sh (aE [.sl,li] (al x0)) λ(x1:Sl×Int)=>sh (dZ n (x1.1,x1.2)) λx2=>if !decide (x2=0) then AI ((ofBytes []),3) else sh (aE [.sl,li] (al x0)) λ(x3:Sl×Int)=>sh (vh n (x3.1,x3.2)) λx4=>if x4.2 then AI ((ofBytes []),14) else sh (aE [.sl,li] (al x0)) λ(x5:Sl×Int)=>sh (yw n (x5.1,x5.2)) λx6=>if !x6 then AI ((ofBytes []),15) else sh (aE [.sl,li] (al x0)) λ(x7:Sl×Int)=>sh (aF none jv [aI x7.1,vi x7.2,.pointer none,aO,vi 0]) λx8=>sh (aq li ((al x0).plus 1)) λ(x9:Int)=>sh (dj n (some (al x8)) x9) λfD=>sh (nn (some (al x8))) λx11=>sh (aq li (x11.plus 4)) λ(x12:Int)=>if !decide (x12=0) then sh (nn (some (al x8))) λx13=>sh (aq li (x13.plus 4)) λ(jj:Int)=>AI ((ofBytes []),jj) else sh (nn (some (al x8))) λx13=>sh (nK n (some (x13.plus 2))) λjj=>if decide (65536<jj) then AI ((ofBytes []),6) else sh (nn (some (al x8))) λx15=>sh (kM n (some (x15.plus 2))) λrz=>AI (rz,0)
abbrev ahd (n:Nat):dv:=⟨6,[.agg [.sl,.int .i64]],[qG,aw],λx=>eD n x⟩
def ahe (i:Nat):Option (List (Nat×η)):=Κ i 11 (Ω [0,1,2,4,3,5]) none
theorem uW (n:Nat):aK TZp (ahd n):=bw Tryz.f6 (C28 n) (dr:=ahe) (hT:=.m1 (K28 n))
abbrev C29 (n:Nat):List dv:=ahd n::C28 n
theorem K29 (n:Nat):eE TZp (C29 n):=.cons (uW n) (K28 n)
def qY (n:Nat)(a0:Sl×Int):M (ζ×Int):=sh (aF none aj [aI a0.1,vi a0.2]) λx0=>sh (aE [.sl,li] (al x0)) λ(x1:Sl×Int)=>sh (eD n (x1.1,x1.2)) λx2=>AI (x2.1,x2.2)
abbrev adv (n:Nat):dv:=⟨11,[.agg [.sl,.int .i64]],[qG,aw],λx=>qY n x⟩
theorem y0 (n:Nat):aK TZp (adv n):=bw Tryz.f11 (C29 n) (hT:=.m1 (K29 n))
abbrev C30 (n:Nat):List dv:=adv n::C29 n
theorem K30 (n:Nat):eE TZp (C30 n):=.cons (y0 n) (K29 n)
def qZ (n:Nat):M Bool:=sh (aZ n 2 (ofBytes [49])) λx0=>sh (aZ n 2 (ofBytes [45,50])) λx1=>sh (aF none aj [aI x0.1,vi x0.2,aI x1.1,vi x1.2]) λx2=>sh (wa n { a:=some (al x2),len:=2,cap:=3 }) λx3=>sh (aF none aj [aO,vi 0]) λx4=>sh (bh (al x4) [aI x3.1.1,vi x3.1.2]) λx5=>sh (dz 14) λx6=>sh (aE [.sl,li] (al x4)) λ(x7:Sl×Int)=>sh (aF (some (x6+11)) aj [aO,vi 0]) λx8=>sh (k8 [some (al x4),none] (rH (x6+11) (aZ n 5 (ofBytes [98])))) λx9=>sh (k8 [some (al x4),none] (rH (x6+11) (aZ n 5 (ofBytes [97])))) λfD=>sh (k8 [some (al x4),none] (rH (x6+11) (aZ n 5 (ofBytes [])))) λx11=>sh (aF (some (x6+6)) u6 [aI x9.1,vi x9.2,aI x7.1,vi x7.2,aI fD.1,vi fD.2,aI x11.1,vi x11.2]) λx12=>sh (k8 [none] (rH (x6+11) (xx n false { a:=some (al x12),len:=2,cap:=3 }))) λx13=>sh (bh (al x8) [aI x13.1.1,vi x13.1.2]) λjj=>sh (aE [.sl,li] (al x8)) λ(x15:Sl×Int)=>sh (eD n (x15.1,x15.2)) λrz=>sh (aZ n 6 (ofBytes [255])) λx17=>sh (qY n (x17.1,x17.2)) λvB=>sh (aZ n 6 (ofBytes [97,98])) λx19=>sh (eD n (x19.1,x19.2)) λx20=>if decide (x3.2=0) then if decide (x13.2=0) then if qE rz.1 (ofBytes [100,49,58,97,48,58,49,58,98,108,105,49,101,105,45,50,101,101,101]) then if decide (rz.2=0) then if qE vB.1 (ofBytes [49,58,255]) then if decide (vB.2=0) then AI (decide (x20.2=11)) else AI false else AI false else AI false else AI false else AI false else AI false
abbrev aiL (n:Nat):dv:=⟨5,[],[lS],λ_=>qZ n⟩
def ahf (i:Nat):Option (List (Nat×η)):=Κ i 2 (Ω [1,11]++[(0,[1,11])]++Ω [2]++[(3,[1,11]),(4,[1,11])]++Ω [5,6]++[(7,[11])]++Ω [8,9,10,12,13]) none
theorem y5 (n:Nat):aK TZp (aiL n):=bw Tryz.f5 (C30 n) (dr:=ahf) (hT:=.m1 (K30 n))
end Go.Sh
