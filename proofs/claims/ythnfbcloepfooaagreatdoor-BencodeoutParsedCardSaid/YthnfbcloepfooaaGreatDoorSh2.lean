
import Derived.Test.YthnfbcloepfooaaGreatDoorMo
set_option linter.all false
set_option maxRecDepth 100000
set_option maxHeartbeats 0
namespace Go.Sh
open Go Go.Ago Go.Proofs Go.IntKind
def pL (n:Nat)(a0 a1:Addr):M (Int×Int):=AI (dT 12) λx0=>AI (bh [.sl,li] a0) λ(x1:Sl×Int)=>AI (ar li (a0.plus 1)) λ(x2:Int)=>AI (bh [.sl,li] a1) λ(x3:Sl×Int)=>AI (ar li (a1.plus 1)) λ(x4:Int)=>AI (nV (x0+8) ug) λx5=>AI (kO [some (a0.plus 1),some a1,some (a1.plus 1)] (r8 n (x1.1,x1.2))) λx6=>AI (kO [some (a0.plus 1),some (a1.plus 1)] (r8 n (x3.1,x3.2))) λx7=>AI (gu n x6 x2 x7 x4 (some x5)) λx8=>AS (x8,0)
def p7 (n:Nat)(a0 a1:Sl×Int):M (Int×Int):=AI (aJ none aj [aS a0.1,vi a0.2]) λx0=>AI (aJ none aj [aS a1.1,vi a1.2]) λx1=>AI (bh [.sl,li] (aw x0)) λ(x2:Sl×Int)=>AI (dD n (x2.1,x2.2)) λx3=>if !decide (x3=0) then AS (0,3) else AI (bh [.sl,li] (aw x1)) λ(x4:Sl×Int)=>AI (dD n (x4.1,x4.2)) λx5=>if !decide (x5=0) then AS (0,3) else AI (bh [.sl,li] (aw x0)) λ(x6:Sl×Int)=>AI (mL n (x6.1,x6.2)) λx7=>if !decide (x7=0) then AS (0,14) else AI (bh [.sl,li] (aw x1)) λ(x8:Sl×Int)=>AI (mL n (x8.1,x8.2)) λx9=>if !decide (x9=0) then AS (0,14) else pL n (aw x0) (aw x1)
abbrev US (n:Nat):cr:=⟨59,[.agg [.sl,.int .i64],.agg [.sl,.int .i64]],[aB,aB],υ2 (p7 n)⟩
def Wg (i:Nat):Option (List (Nat×η)):=Κ i 5 (Ω [2,6,0,3,4,7,8]++[(1,[3,4,7]),(5,[3,7])]++Ω [9,10,11]) none
abbrev Wh (n:Nat):List (jd (Int×Int)):=[⟨[0,1,1,1],[.code [1,1,1,1]],[(2,aV),(3,aV)],υ2 (pL n)⟩]
theorem Aq (n:Nat):xV (YD n) [81]:=xV.one (e:=QT n) (λx=>DZ n x) (CE (by kernel_rfl))
theorem Ar (n:Nat):bz TZp (US n):=cQ Tryz.f59 (YD n) (mo:=[81]) (dr:=Wg) (js:=Wh n) (hT:=⟨(Aq n),K32 n,.nil,.nil,(.cc .nil)⟩)
abbrev Zf (n:Nat):List cr:=US n::YD n
theorem K33 (n:Nat):bA TZp (Zf n):=.cons (Ar n) (K32 n)
def oD (n:Nat)(a0 a1:Int)(a2:Addr):M Bool:=AI (ar .sl a2) λ(x0:Sl)=>AI (ao x0 a0 2) λx1=>AI (bh [.sl,li] x1) λ(x2:Sl×Int)=>AI (ar .sl a2) λ(x3:Sl)=>AI (ao x3 a1 2) λx4=>AI (bh [.sl,li] x4) λ(x5:Sl×Int)=>AI (p7 n (x2.1,x2.2) (x5.1,x5.2)) λx6=>AS (decide (x6.1<0))
abbrev UT (n:Nat):cr:=⟨58,[aB,aB,aV],[kP],υ3 (oD n)⟩
def Wi (i:Nat):Option (List (Nat×η)):=Κ i 1 (Ω [1,5,0,2,3,4,6,7,8,9,10,11,12,13]) none
theorem sY (n:Nat):bz TZp (UT n):=cQ Tryz.f58 (Zf n) (dr:=Wi) (hT:=.m1 (K33 n))
abbrev C34 (n:Nat):List cr:=UT n::Zf n
theorem K34 (n:Nat):bA TZp (C34 n):=.cons (sY n) (K33 n)
structure bR where
 gS:Sl->ξ->Sl->Sl->Int->Int->M Unit
 kQ:Sl->ξ->M Unit
def oE (G:bR)(n:Nat)(x:ξ)(a0 a1:Int):M Bool:=if uL lZ x then AI (nr [aV] x) λ(c:Addr)=>oD n a0 a1 c else AT
def ij (G:bR)(n:Nat)(a0:Sl)(a1:ξ)(a2 a3:Sl)(a4 a5 a6:Int):M Unit:=AI (ao a2 0 1) λx0=>AI (ar li x0) λ(x1:Int)=>AI (ao a0 a4 1) λx2=>AI (gf a2 1 (↑a2.len:Int) ay 1) λx3=>AI (kO [a2.a] (bE x2 [vi x1])) λx4=>G.gS a0 a1 x3 a3 a5 (i64.wrap (a6+1))
def im (G:bR)(n:Nat)(a0:Sl)(a1:ξ)(a2 a3:Sl)(a4 a5 a6:Int):M Unit:=AI (ao a3 0 1) λx0=>AI (ar li x0) λ(x1:Int)=>AI (ao a0 a4 1) λx2=>AI (gf a3 1 (↑a3.len:Int) ay 1) λx3=>AI (kO [a3.a] (bE x2 [vi x1])) λx4=>G.gS a0 a1 a2 x3 a5 (i64.wrap (a6+1))
def pM (G:bR)(n:Nat)(a0:Sl)(a1:ξ)(a2 a3:Sl)(a4 a5:Int):M Unit:=if decide (a5<a4) then if decide ((↑a3.len:Int)=0) then ij G n a0 a1 a2 a3 a5 a4 a5 else if decide (0<(↑a2.len:Int)) then AI (ao a3 0 1) λx0=>AI (ao a2 0 1) λx1=>AI (ar li x0) λ(x2:Int)=>AI (ar li x1) λ(x3:Int)=>AI (oE G n a1 x2 x3) λx4=>if !x4 then ij G n a0 a1 a2 a3 a5 a4 a5 else im G n a0 a1 a2 a3 a5 a4 a5 else im G n a0 a1 a2 a3 a5 a4 a5 else AS ()
def tT (G:bR)(n:Nat)(a0:Sl)(a1:ξ):M Unit:=if decide ((↑a0.len:Int)<2) then AS () else AI (aJ none ay []) λx0=>AI (xZ (decide (2≠0))) λx1=>AI (gf a0 0 (i64.wrap ((↑a0.len:Int).tdiv 2)) ay 1) λx2=>AI (DD x2 1) λx3=>AI (app false { a:=some (aw x0),len:=0,cap:=1 } 1 3 x2.len x3) λx4=>AI (aJ none ay []) λx5=>AI (xZ (decide (2≠0))) λx6=>AI (gf a0 (i64.wrap ((↑a0.len:Int).tdiv 2)) (↑a0.len:Int) ay 1) λx7=>AI (DD x7 1) λx8=>AI (app false { a:=some (aw x5),len:=0,cap:=1 } 1 3 x7.len x8) λx9=>AI (G.kQ x4 a1) λeU=>AI (G.kQ x9 a1) λx11=>AI (G.gS a0 a1 x4 x9 (↑a0.len:Int) 0) λx12=>AS ()
def bR.at:Nat->bR|0=>⟨λ_ _ _ _ _ _=>AT,λ_ _=>AT⟩|n+1=>⟨pM (bR.at n) n,tT (bR.at n) n⟩
def gS (n:Nat):=(bR.at n).gS
theorem xD (n:Nat):gS (n+1)=pM (bR.at n) n:=rfl
def kQ (n:Nat):=(bR.at n).kQ
theorem As (n:Nat):kQ (n+1)=tT (bR.at n) n:=rfl
def lj (n:Nat):=oE (bR.at n) n
def zu (n:Nat):=im (bR.at n) n
def zw (n:Nat):=ij (bR.at n) n
abbrev QV (n:Nat):cr:=⟨57,[cH,rX],[],υ2 (kQ n)⟩
abbrev GA:L1:=⟨[0,1,1,1,1,1,1],[(0,cH),(1,rX),(4,cH),(5,cH),(31,aB),(32,aB)],[],[4,5,6]++List.range' 32 39,0,λn=>υ6 (gS n)⟩
abbrev UU (n:Nat):List cr:=QV n::C34 n
abbrev Kw (n:Nat):List jk:=[⟨43,[aB,aB],[kP],λx a=>lj n x a.1 a.2⟩]
def QW (i:Nat):Option (List (Nat×η)):=Κ i 8 (Ω [0,1,2,3,4,5,6,7,8,9,10,12,13,11,14,15,16,17,18]) (Κ i 9 (Ω [0,1,2,3,5,4,7,6]++[(8,[6])]++Ω [9]) (Κ i 10 (Ω [0,1,2,3,5,4,7,6]++[(8,[6])]++Ω [9]) none))
abbrev Oc (n:Nat):List (jd Unit):=[⟨[1,1,1,0,0,1,1,0,0,1,1,1,1,1,1],[.aD 1,.code [1,1,1,0,0,1,1,1,1,1,1]],[(0,cH),(1,rX),(4,cH),(5,cH),(6,aB),(31,aB),(32,aB)],υ7 (zu n)⟩, ⟨[0,1,1,0,0,1,1,0,0,1,1,1,1,1,1],[.aD 1,.code [1,1,1,0,0,1,1,1,1,1,1]],[(0,cH),(1,rX),(4,cH),(5,cH),(6,aB),(31,aB),(32,aB)],υ7 (zw n)⟩]
def mQ (n:Nat):Prop:=bz TZp (QV n)
theorem QX (n:Nat)(H:mQ n):bA TZp (UU n):=.cons H (K34 n)
theorem QZ (n:Nat)(H:mQ n):nP TZp (Kw n):=.cons (eb (l:=[⟨58,[aV],λa c=>oD n a.1 a.2 c⟩]) (.cons (λa c=>aI (by kernel_rfl) ((sY n) (a.1,a.2,c))) .nil) (λx a=>by kernel_rfl)) .nil
theorem Od (n:Nat)(H:∀m,m<n->mQ m):kE TZp Tryz.f57 (GA.e n) GA.ws:=L1.ok Tryz.f57 GA n UU (dt:=Kw) (dr:=QW) (jt:=Oc) (hT:=λm hm=>⟨.nil,QX m (H m hm),(QZ m (H m hm)),.nil,(.cc (.cc .nil))⟩)
theorem xE (n:Nat)(H:∀m,m<n+1->mQ m):bz TZp (QV (n+1)):=cQ Tryz.f57 (UU n) (dl:=Kw n) (ll:=[GA.e n]) (dr:=QW) (hT:=⟨.nil,QX n (H n (aad n)),(QZ n (H n (aad n))),(.cc (Od n (λk hk=>H k (aal hk))) .nil),.nil⟩)
theorem zx:∀n m,m<n->mQ m:=by
 intro n
 induction n with
 |zero=>intro m hm;exact absurd hm (abc m)
 |succ n ih=>
  intro m hm;cases m with
  |zero=>exact eg (fn:=Tryz.f57) (by kernel_rfl) (by kernel_rfl) (by kernel_rfl) (λ_=>rfl)
  |succ k=>exact xE k λm hm=>ih m (by omega)
theorem YE (n:Nat):bA TZp (UU n):=QX n (zx (n+1) n (aad n))
def oF (G:Addr->Sl->Addr->Sl->Int->Int->M Unit)(n:Nat)(a0:Addr)(a1:Sl)(a2:Addr)(a3:Sl)(a4 a5:Int):M Unit:=if decide (a5<a4) then AI (ao a3 a5 1) λx0=>AI (ar li x0) λ(x1:Int)=>AI (ar .sl a2) λ(x2:Sl)=>AI (bh [.sl,li] a0) λ(x3:Sl×Int)=>AI (kO [some a2] (xe n (x3.1,x3.2) x1)) λx4=>AI (ao x2 a5 2) λx5=>AI (bE x5 [aS x4.1,vi x4.2]) λx6=>G a0 a1 a2 a3 a4 (i64.wrap (a5+1)) else AS ()
def jr:Nat->Addr->Sl->Addr->Sl->Int->Int->M Unit|0=>λ_ _ _ _ _ _=>AT|n+1=>oF (jr n) n
theorem wH (n:Nat):jr (n+1)=oF (jr n) n:=rfl
def oG (G:Addr->Addr->Sl->Int->Int->M Unit)(n:Nat)(a0 a1:Addr)(a2:Sl)(a3 a4:Int):M Unit:=if decide (a4<a3) then AI (ao a2 a4 1) λx0=>AI (bE x0 [vi a4]) λx1=>G a0 a1 a2 a3 (i64.wrap (a4+1)) else AS ()
def ju:Nat->Addr->Addr->Sl->Int->Int->M Unit|0=>λ_ _ _ _ _=>AT|n+1=>oG (ju n) n
theorem wI (n:Nat):ju (n+1)=oG (ju n) n:=rfl
def qD (n:Nat)(a0 a1:Addr)(a2:Sl):M Sl:=AI (ar .sl (a1.plus 3)) λ(x0:Sl)=>AI (pT none aj [aZ,vi 0] (↑x0.len:Int) (↑x0.len:Int)) λx1=>AI (aJ none gC [aZ]) λx2=>AI (bE (aw x2) [aS x1]) λx3=>AI (ar .sl (a1.plus 3)) λ(x4:Sl)=>AI (jr n a0 a2 (aw x2) x4 (↑x4.len:Int) 0) λx5=>AI (kQ n a2 (Value.func (Fn.func lZ) #[] #[.pointer (some (aw x2))])) λx6=>AS a2
def oH (n:Nat)(a0:Sl×Int)(a1:Int):M Sl:=AI (aJ none aj [aS a0.1,vi a0.2]) λx0=>AI (ar .sl ((aw x0).plus 0)) λ(x1:Sl)=>AI (ao x1 a1 5) λx2=>AI (bh [li,.str,.bool,.sl,.sl] x2) λ(x3:Int×ζ×Bool×Sl×Sl)=>AI (aJ none aH [vi 0,.string (ofBytes []),.bool false,aZ,aZ]) λx4=>AI (bE (aw x4) [vi x3.1,.string x3.2.1,.bool x3.2.2.1,aS x3.2.2.2.1,aS x3.2.2.2.2]) λx5=>AI (ar .sl ((aw x4).plus 4)) λ(x6:Sl)=>AI (pT none ay [vi 0] (↑x6.len:Int) (↑x6.len:Int)) λx7=>AI (ju n (aw x0) (aw x4) x7 (↑x7.len:Int) 0) λx8=>AI (ar li ((aw x4).plus 0)) λ(x9:Int)=>if !decide (x9=10) then AS x7 else AI (ar .bool ((aw x4).plus 2)) λ(eU:Bool)=>if eU then AS x7 else qD n (aw x0) (aw x4) x7
abbrev UW (n:Nat):cr:=⟨36,[.agg [.sl,.int .i64],aB],[cH],υ2 (oH n)⟩
abbrev GB:L1:=⟨[0,1,0,1,1,1],[(2,aV),(5,aV),(6,cH),(21,aB),(22,aB)],[],[7]++List.range' 22 8,0,λn=>υ5 (ju n)⟩
abbrev GC:L1:=⟨[0,1,0,1,1,1,1,1,1],[(2,aV),(6,cH),(8,aV),(43,cH),(44,aB),(45,aB)],[],[9,10]++List.range' 45 12,2,λn=>υ6 (jr n)⟩
def Kx (i:Nat):Option (List (Nat×η)):=Κ i 14 (Ω [1,3,0,2]++[(4,[0])]++Ω [5,6]) none
abbrev Wj (n:Nat):List (jd Sl):=[⟨[0,1,1,1,1,1],[.code [1,1,1,1,1,1]],[(2,aV),(5,aV),(6,cH)],υ3 (qD n)⟩]
theorem Oe (n:Nat):kE TZp Tryz.f36 (GC.e n) GC.ws:=L1.ok Tryz.f36 GC n UU (dr:=Kx) (hT:=λm _=>.m1 (YE m))
theorem Of (n:Nat):kE TZp Tryz.f36 (GB.e n) GB.ws:=L1.ok Tryz.f36 GB n UU (dr:=Kx) (hT:=λm _=>.m1 (YE m))
theorem Bo (n:Nat):bz TZp (UW n):=cQ Tryz.f36 (UU n) (ll:=[GB.e n,GC.e n]) (dr:=Kx) (js:=Wj n) (hT:=⟨.nil,YE n,.nil,(.cc (Of n) (.cc (Oe n) .nil)),(.cc .nil)⟩)
abbrev C36 (n:Nat):List cr:=UW n::UU n
theorem K36 (n:Nat):bA TZp (C36 n):=.cons (Bo n) (YE n)
structure bK where
 jO:Addr->Addr->Int->Int->M Int
 eH:Int->Addr->Addr->Addr->Addr->Addr->Sl->Int->Int->M (Unit⊕Bool)
 fJ:Int->Addr->Addr->Addr->Addr->Addr->M Bool
def lR (G:bK)(n:Nat)(x:ξ)(a0:Int):M Bool:=if uL lY x then AI (nr [aV,aV,aV,aV,aV] x) λ(c:Addr×Addr×Addr×Addr×Addr)=>G.fJ a0 c.1 c.2.1 c.2.2.1 c.2.2.2.1 c.2.2.2.2 else AT
def xF (G:bK)(n:Nat)(a0 a1:Addr)(a2 a3:Int):M Int:=AI (ar .sl a0) λ(x0:Sl)=>AI (ao x0 a3 1) λx1=>AI (ar li x1) λ(x2:Int)=>if !decide (x2=a2) then G.jO a0 a1 a2 (i64.wrap (a3-1)) else AS a3
def mA (G:bK)(n:Nat)(a0:Int)(a1 a2 a3 a4 a5:Addr)(a6:Sl)(a7 a8:Int):M (Unit⊕Bool):=if decide (a8<a7) then AI (ao a6 a8 1) λx0=>AI (ar li x0) λ(x1:Int)=>AI (ar .sl (a3.plus 0)) λ(x2:Sl)=>AI (ao x2 a0 5) λx3=>AI (ar .sl (x3.plus 4)) λ(x4:Sl)=>AI (ao x4 x1 1) λx5=>AI (ar li x5) λ(x6:Int)=>AI (ar .sl a1) λ(x7:Sl)=>AI (ao x7 x6 1) λx8=>AI (ar li x8) λ(x9:Int)=>if decide (x9=1) then AI (ar .sl a2) λ(eU:Sl)=>AI (G.jO a2 a4 x6 (i64.wrap ((↑eU.len:Int)-1))) λx11=>AI (aJ none ay []) λx12=>AI (ar .sl a2) λ(x13:Sl)=>AI (gf x13 x11 (↑x13.len:Int) ay 1) λx14=>AI (DD x14 1) λx15=>AI (app false { a:=some (aw x12),len:=0,cap:=1 } 1 3 x14.len x15) λx16=>AI (bE a4 [aS x16]) λx17=>AS (Sum.inr true) else AI (ar .sl a1) λ(eU:Sl)=>AI (ao eU x6 1) λx11=>AI (ar li x11) λ(x12:Int)=>if decide (x12=0) then AI (ar .raw a5) λ(x13:ξ)=>AI (lR G n x13 x6) λx14=>if x14 then AS (Sum.inr true) else G.eH a0 a1 a2 a3 a4 a5 a6 a7 (i64.wrap (a8+1)) else G.eH a0 a1 a2 a3 a4 a5 a6 a7 (i64.wrap (a8+1)) else AS (Sum.inl ())
def pN (G:bK)(n:Nat)(a0:Int)(a1 a2 a3 a4 a5:Addr):M Bool:=AI (ar .sl a1) λ(x0:Sl)=>AI (ao x0 a0 1) λx1=>AI (bE x1 [vi 1]) λx2=>AI (ar .sl a2) λ(x3:Sl)=>AI (app false x3 1 ay 1 [vi a0]) λx4=>AI (bE a2 [aS x4]) λx5=>AI (bh [.sl,li] a3) λ(x6:Sl×Int)=>AI (oH n (x6.1,x6.2) a0) λx7=>AI (G.eH a0 a1 a2 a3 a4 a5 x7 (↑x7.len:Int) 0) (cn (λx8=>AI (ar .sl a1) λ(x9:Sl)=>AI (ao x9 a0 1) λeU=>AI (bE eU [vi 2]) λx11=>AI (ar .sl a2) λ(x12:Sl)=>AI (ar .sl a2) λ(x13:Sl)=>AI (gf x12 0 (i64.wrap ((↑x13.len:Int)-1)) ay 1) λx14=>AI (bE a2 [aS x14]) λx15=>AS false) (λx8=>AS x8))
def bK.at:Nat->bK|0=>⟨λ_ _ _ _=>AT,λ_ _ _ _ _ _ _ _ _=>AT,λ_ _ _ _ _ _=>AT⟩|n+1=>⟨xF (bK.at n) n,mA (bK.at n) n,pN (bK.at n) n⟩
def jO (n:Nat):=(bK.at n).jO
def eH (n:Nat):=(bK.at n).eH
theorem vg (n:Nat):eH (n+1)=mA (bK.at n) n:=rfl
def fJ (n:Nat):=(bK.at n).fJ
theorem xG (n:Nat):fJ (n+1)=pN (bK.at n) n:=rfl
def yJ (n:Nat):=lR (bK.at n) n
abbrev LU (n:Nat):cr:=⟨35,[aB,aV,aV,aV,aV,aV],[kP],υ6 (fJ n)⟩
abbrev GD:L2:=⟨[0,1,0,1,1,1],[(0,aB),(1,aV),(2,aV),(3,aV),(4,aV),(5,aV),(21,cH),(22,aB),(23,aB)],[],[(7,kP)],[7,9,10,11]++List.range' 23 45,0,.ret,λn=>υ9 (eH n)⟩
abbrev GF:L1:=⟨[0,0,1,0,1,0,1,1,0,0,1,1,0,0,1,0,1,1,1],[(2,aV),(4,aV),(10,aB),(11,aB)],[(11,aB)],[11]++List.range' 44 8,2,λn=>υ4 (jO n)⟩
abbrev Wk (n:Nat):List cr:=LU n::C36 n
abbrev GG (n:Nat):List jk:=[⟨63,[aB],[kP],λx a=>yJ n x a⟩]
def iN (n:Nat):Prop:=bz TZp (LU n)
theorem LV (n:Nat)(H:iN n):bA TZp (Wk n):=.cons H (K36 n)
theorem Ky (n:Nat)(H:iN n):nP TZp (GG n):=.cons (eb (l:=[⟨35,[aV,aV,aV,aV,aV],λa c=>fJ n a c.1 c.2.1 c.2.2.1 c.2.2.2.1 c.2.2.2.2⟩]) (.cons (λa c=>aI (by kernel_rfl) ((H) (a,c.1,c.2.1,c.2.2.1,c.2.2.2.1,c.2.2.2.2))) .nil) (λx a=>by kernel_rfl)) .nil
theorem Og (n:Nat)(H:∀m,m<n->iN m):kE TZp Tryz.f35 (GF.e n) GF.ws:=L1.ok Tryz.f35 GF n Wk (dt:=GG) (hT:=λm hm=>⟨.nil,LV m (H m hm),(Ky m (H m hm)),.nil,.nil⟩)
theorem Oh (n:Nat)(H:∀m,m<n->iN m):kE TZp Tryz.f35 (GD.e n) GD.ws:=L2.ok Tryz.f35 GD n Wk (dt:=GG) (lt:=λn=>[GF.e n]) (hT:=λm hm=>⟨.nil,LV m (H m hm),(Ky m (H m hm)),(.cc (Og m (λk hk=>H k (abk hk hm))) .nil),.nil⟩)
theorem vh (n:Nat)(H:∀m,m<n+1->iN m):bz TZp (LU (n+1)):=cQ Tryz.f35 (Wk n) (dl:=GG n) (ll:=[GD.e n]) (hT:=⟨.nil,LV n (H n (aad n)),(Ky n (H n (aad n))),(.cc (Oh n (λk hk=>H k (aal hk))) .nil),.nil⟩)
theorem qm:∀n m,m<n->iN m:=by
 intro n
 induction n with
 |zero=>intro m hm;exact absurd hm (abc m)
 |succ n ih=>
  intro m hm;cases m with
  |zero=>exact eg (fn:=Tryz.f35) (by kernel_rfl) (by kernel_rfl) (by kernel_rfl) (λ_=>rfl)
  |succ k=>exact vh k λm hm=>ih m (by omega)
theorem zy (n:Nat):bz TZp (LU n):=(qm (n+1) n (aad n))
theorem K37 (n:Nat):bA TZp (Wk n):=LV n (qm (n+1) n (aad n))
def pO (n:Nat)(x:ξ)(a0:Int):M Bool:=if uL lY x then AI (nr [aV,aV,aV,aV,aV] x) λ(c:Addr×Addr×Addr×Addr×Addr)=>fJ n a0 c.1 c.2.1 c.2.2.1 c.2.2.2.1 c.2.2.2.2 else AT
def rl (n:Nat)(a0:Sl×Int):M (Sl×Bool):=AI (aJ none aj [aS a0.1,vi a0.2]) λx0=>AI (bh [.sl,li] (aw x0)) λ(x1:Sl×Int)=>AI (dD n (x1.1,x1.2)) λx2=>if !decide (x2=0) then AS (jb,false) else AI (ar .sl ((aw x0).plus 0)) λ(x3:Sl)=>AI (pT none ay [vi 0] (↑x3.len:Int) (↑x3.len:Int)) λx4=>AI (aJ none cw [aZ]) λx5=>AI (bE (aw x5) [aS x4]) λx6=>AI (aJ none cw [aZ]) λx7=>AI (aJ none cw [aZ]) λx8=>AI (aJ none wo [Value.nilFunc]) λx9=>AI (bE (aw x9) [.func (Fn.func lY) #[] #[.pointer (some (aw x5)),.pointer (some (aw x7)),.pointer (some (aw x0)),.pointer (some (aw x8)),.pointer (some (aw x9))]]) λeU=>AI (ar .raw (aw x9)) λ(x11:ξ)=>AI (ar li ((aw x0).plus 1)) λ(x12:Int)=>AI (pO n x11 x12) λx13=>AI (ar .sl (aw x8)) λ(x14:Sl)=>AS (x14,x13)
abbrev UX (n:Nat):cr:=⟨14,[.agg [.sl,.int .i64]],[cH,kP],λx=>rl n x⟩
abbrev Q0 (n:Nat):List jk:=[⟨17,[aB],[kP],λx a=>pO n x a⟩]
theorem Wl (n:Nat):nP TZp (Q0 n):=.cons (eb (l:=[⟨35,[aV,aV,aV,aV,aV],λa c=>fJ n a c.1 c.2.1 c.2.2.1 c.2.2.2.1 c.2.2.2.2⟩]) (.cons (λa c=>aI (by kernel_rfl) ((zy n) (a,c.1,c.2.1,c.2.2.1,c.2.2.2.1,c.2.2.2.2))) .nil) (λx a=>by kernel_rfl)) .nil
theorem Bp (n:Nat):bz TZp (UX n):=cQ Tryz.f14 (Wk n) (dl:=Q0 n) (hT:=⟨.nil,K37 n,(Wl n),.nil,.nil⟩)
abbrev C38 (n:Nat):List cr:=UX n::Wk n
theorem K38 (n:Nat):bA TZp (C38 n):=.cons (Bp n) (K37 n)
structure cP where
 ff:Int->Addr->Addr->Addr->Sl->Int->Int->M Unit
 gv:Int->Addr->Addr->Addr->Addr->Addr->M Unit
def mB (G:cP)(n:Nat)(x:ξ)(a0:Int):M Unit:=if uL nh x then AI (nr [aV,aV,aV,aV,aV] x) λ(c:Addr×Addr×Addr×Addr×Addr)=>G.gv a0 c.1 c.2.1 c.2.2.1 c.2.2.2.1 c.2.2.2.2 else AT
def nB (G:cP)(n:Nat)(a0:Int)(a1 a2 a3:Addr)(a4:Sl)(a5 a6:Int):M Unit:=if decide (a6<a5) then AI (ao a4 a6 1) λx0=>AI (ar li x0) λ(x1:Int)=>AI (ar .sl a1) λ(x2:Sl)=>AI (ar .sl (a2.plus 0)) λ(x3:Sl)=>AI (ao x3 a0 5) λx4=>AI (ar .sl (x4.plus 4)) λ(x5:Sl)=>AI (ao x5 x1 1) λx6=>AI (ar li x6) λ(x7:Int)=>AI (ao x2 x7 1) λx8=>AI (ar .bool x8) λ(x9:Bool)=>if !x9 then AI (ar .raw a3) λ(eU:ξ)=>AI (ar .sl (a2.plus 0)) λ(x11:Sl)=>AI (ao x11 a0 5) λx12=>AI (ar .sl (x12.plus 4)) λ(x13:Sl)=>AI (ao x13 x1 1) λx14=>AI (ar li x14) λ(x15:Int)=>AI (mB G n eU x15) λx16=>G.ff a0 a1 a2 a3 a4 a5 (i64.wrap (a6+1)) else G.ff a0 a1 a2 a3 a4 a5 (i64.wrap (a6+1)) else AS ()
def qE (G:cP)(n:Nat)(a0:Int)(a1 a2 a3 a4 a5:Addr):M Unit:=AI (ar .sl a1) λ(x0:Sl)=>AI (ao x0 a0 1) λx1=>AI (bE x1 [.bool true]) λx2=>AI (ar .sl a2) λ(x3:Sl)=>AI (app false x3 1 ay 1 [vi a0]) λx4=>AI (bE a2 [aS x4]) λx5=>AI (ar .sl a4) λ(x6:Sl)=>AI (bh [.sl,li] a3) λ(x7:Sl×Int)=>AI (kO [some a4] (oH n (x7.1,x7.2) a0)) λx8=>AI (ao x6 a0 1) λx9=>AI (bE x9 [aS x8]) λeU=>AI (ar .sl a4) λ(x11:Sl)=>AI (ao x11 a0 1) λx12=>AI (ar .sl x12) λ(x13:Sl)=>AI (G.ff a0 a1 a3 a5 x13 (↑x13.len:Int) 0) λx14=>AS ()
def cP.at:Nat->cP|0=>⟨λ_ _ _ _ _ _ _=>AT,λ_ _ _ _ _ _=>AT⟩|n+1=>⟨nB (cP.at n) n,qE (cP.at n) n⟩
def ff (n:Nat):=(cP.at n).ff
theorem vQ (n:Nat):ff (n+1)=nB (cP.at n) n:=rfl
def gv (n:Nat):=(cP.at n).gv
theorem yK (n:Nat):gv (n+1)=qE (cP.at n) n:=rfl
def zA (n:Nat):=mB (cP.at n) n
abbrev LW (n:Nat):cr:=⟨82,[aB,aV,aV,aV,aV,aV],[],υ6 (gv n)⟩
abbrev GH:L1:=⟨[0,1,1,1,1],[(0,aB),(1,aV),(3,aV),(5,aV),(25,cH),(26,aB),(27,aB)],[],[8]++List.range' 27 29,0,λn=>υ7 (ff n)⟩
abbrev Xl (n:Nat):List cr:=LW n::C38 n
abbrev Kz (n:Nat):List jk:=[⟨44,[aB],[],λx a=>zA n x a⟩]
def Q1 (i:Nat):Option (List (Nat×η)):=Κ i 2 (Ω [1,3,0,2]++[(4,[0])]++Ω [5,6]) (Κ i 6 (Ω [1,3,7,0,2,4,5,6,8,9,10,11,12]) (Κ i 7 (Ω [1,3,7,0,2,4,5,6,8,9,10]) none))
def ln (n:Nat):Prop:=bz TZp (LW n)
theorem Q2 (n:Nat)(H:ln n):bA TZp (Xl n):=.cons H (K38 n)
theorem Q3 (n:Nat)(H:ln n):nP TZp (Kz n):=.cons (eb (l:=[⟨82,[aV,aV,aV,aV,aV],λa c=>gv n a c.1 c.2.1 c.2.2.1 c.2.2.2.1 c.2.2.2.2⟩]) (.cons (λa c=>aI (by kernel_rfl) ((H) (a,c.1,c.2.1,c.2.2.1,c.2.2.2.1,c.2.2.2.2))) .nil) (λx a=>by kernel_rfl)) .nil
theorem Oi (n:Nat)(H:∀m,m<n->ln m):kE TZp Tryz.f82 (GH.e n) GH.ws:=L1.ok Tryz.f82 GH n Xl (dt:=Kz) (dr:=Q1) (hT:=λm hm=>⟨.nil,Q2 m (H m hm),(Q3 m (H m hm)),.nil,.nil⟩)
theorem vR (n:Nat)(H:∀m,m<n+1->ln m):bz TZp (LW (n+1)):=cQ Tryz.f82 (Xl n) (dl:=Kz n) (ll:=[GH.e n]) (dr:=Q1) (hT:=⟨.nil,Q2 n (H n (aad n)),(Q3 n (H n (aad n))),(.cc (Oi n (λk hk=>H k (aal hk))) .nil),.nil⟩)
theorem qR:∀n m,m<n->ln m:=by
 intro n
 induction n with
 |zero=>intro m hm;exact absurd hm (abc m)
 |succ n ih=>
  intro m hm;cases m with
  |zero=>exact eg (fn:=Tryz.f82) (by kernel_rfl) (by kernel_rfl) (by kernel_rfl) (λ_=>rfl)
  |succ k=>exact vR k λm hm=>ih m (by omega)
theorem At (n:Nat):bz TZp (LW n):=(qR (n+1) n (aad n))
theorem K39 (n:Nat):bA TZp (Xl n):=Q2 n (qR (n+1) n (aad n))
def qF (n:Nat)(x:ξ)(a0:Int):M Unit:=if uL nh x then AI (nr [aV,aV,aV,aV,aV] x) λ(c:Addr×Addr×Addr×Addr×Addr)=>gv n a0 c.1 c.2.1 c.2.2.1 c.2.2.2.1 c.2.2.2.2 else AT
def sZ (n:Nat)(a0:Sl×Int):M (Sl×Sl):=AI (aJ none aj [aS a0.1,vi a0.2]) λx0=>AI (ar .sl ((aw x0).plus 0)) λ(x1:Sl)=>AI (pT none cw [aZ] (↑x1.len:Int) (↑x1.len:Int)) λx2=>AI (aJ none A2 [aZ]) λx3=>AI (bE (aw x3) [aS x2]) λx4=>AI (ar .sl ((aw x0).plus 0)) λ(x5:Sl)=>AI (pT none yp [.bool false] (↑x5.len:Int) (↑x5.len:Int)) λx6=>AI (aJ none rI [aZ]) λx7=>AI (bE (aw x7) [aS x6]) λx8=>AI (aJ none cw [aZ]) λx9=>AI (aJ none pC [Value.nilFunc]) λeU=>AI (bE (aw eU) [.func (Fn.func nh) #[] #[.pointer (some (aw x7)),.pointer (some (aw x9)),.pointer (some (aw x0)),.pointer (some (aw x3)),.pointer (some (aw eU))]]) λx11=>AI (ar .raw (aw eU)) λ(x12:ξ)=>AI (ar li ((aw x0).plus 1)) λ(x13:Int)=>AI (qF n x12 x13) λx14=>AI (ar .sl (aw x9)) λ(x15:Sl)=>AI (ar .sl (aw x3)) λ(x16:Sl)=>AS (x15,x16)
abbrev UY (n:Nat):cr:=⟨60,[.agg [.sl,.int .i64]],[cH,cH],λx=>sZ n x⟩
abbrev Q4 (n:Nat):List jk:=[⟨17,[aB],[],λx a=>qF n x a⟩]
def Wm (i:Nat):Option (List (Nat×η)):=Κ i 7 (Ω [0,2,1,3]) none
theorem Wn (n:Nat):nP TZp (Q4 n):=.cons (eb (l:=[⟨82,[aV,aV,aV,aV,aV],λa c=>gv n a c.1 c.2.1 c.2.2.1 c.2.2.2.1 c.2.2.2.2⟩]) (.cons (λa c=>aI (by kernel_rfl) ((At n) (a,c.1,c.2.1,c.2.2.1,c.2.2.2.1,c.2.2.2.2))) .nil) (λx a=>by kernel_rfl)) .nil
theorem Db (n:Nat):bz TZp (UY n):=cQ Tryz.f60 (Xl n) (dl:=Q4 n) (dr:=Wm) (hT:=⟨.nil,K39 n,(Wn n),.nil,.nil⟩)
abbrev X0 (n:Nat):List cr:=UY n::Xl n
theorem YF (n:Nat):bA TZp (X0 n):=.cons (Db n) (K39 n)
def oI (G:Sl->Sl->Int->Int->Sl->Int->Int->M Unit)(n:Nat)(a0 a1:Sl)(a2 a3:Int)(a4:Sl)(a5 a6:Int):M Unit:=if decide (a6<a5) then AI (ao a4 a6 1) λx0=>AI (ar li x0) λ(x1:Int)=>AI (ao a0 x1 1) λx2=>AI (ar li x2) λ(x3:Int)=>AI (ao a0 x1 1) λx4=>AI (bE x4 [vi (i64.wrap (x3+1))]) λx5=>G a0 a1 a2 a3 a4 a5 (i64.wrap (a6+1)) else AS ()
def jv:Nat->Sl->Sl->Int->Int->Sl->Int->Int->M Unit|0=>λ_ _ _ _ _ _ _=>AT|n+1=>oI (jv n) n
theorem wJ (n:Nat):jv (n+1)=oI (jv n) n:=rfl
def oJ (G:Sl->Sl->Int->Int->M Unit)(n:Nat)(a0 a1:Sl)(a2 a3:Int):M Unit:=if decide (a3<a2) then AI (ao a1 a3 5) λx0=>AI (bh [li,.str,.bool,.sl,.sl] x0) λ(x1:Int×ζ×Bool×Sl×Sl)=>AI (aJ none aH [vi 0,.string (ofBytes []),.bool false,aZ,aZ]) λx2=>AI (bE (aw x2) [vi x1.1,.string x1.2.1,.bool x1.2.2.1,aS x1.2.2.2.1,aS x1.2.2.2.2]) λx3=>AI (ar .sl ((aw x2).plus 4)) λ(x4:Sl)=>AI (jv n a0 a1 a2 a3 x4 (↑x4.len:Int) 0) λx5=>G a0 a1 a2 (i64.wrap (a3+1)) else AS ()
def jx:Nat->Sl->Sl->Int->Int->M Unit|0=>λ_ _ _ _=>AT|n+1=>oJ (jx n) n
theorem wK (n:Nat):jx (n+1)=oJ (jx n) n:=rfl
def rm (n:Nat)(a0:Sl×Int):M Sl:=AI (aJ none aj [aS a0.1,vi a0.2]) λx0=>AI (ar .sl ((aw x0).plus 0)) λ(x1:Sl)=>AI (pT none ay [vi 0] (↑x1.len:Int) (↑x1.len:Int)) λx2=>AI (ar li ((aw x0).plus 1)) λ(x3:Int)=>AI (ao x2 x3 1) λx4=>AI (ar li x4) λ(x5:Int)=>AI (ao x2 x3 1) λx6=>AI (bE x6 [vi (i64.wrap (x5+1))]) λx7=>AI (ar .sl ((aw x0).plus 0)) λ(x8:Sl)=>AI (jx n x2 x8 (↑x8.len:Int) 0) λx9=>AS x2
abbrev UZ (n:Nat):cr:=⟨61,[.agg [.sl,.int .i64]],[cH],λx=>rm n x⟩
abbrev GI:L1:=⟨[0,1,0,1,1,1],[(3,cH),(20,cH),(21,aB),(22,aB)],[],[5,7]++List.range' 22 19,0,λn=>υ4 (jx n)⟩
abbrev GJ:L1:=⟨[0,1,1,0,0,1,1,0,0,1,0,1,1,1],[(3,cH),(20,cH),(21,aB),(22,aB),(27,cH),(28,aB),(29,aB)],[],[7]++List.range' 29 11,2,λn=>υ7 (jv n)⟩
theorem Oj (n:Nat):kE TZp Tryz.f61 (GJ.e n) GJ.ws:=L1.ok Tryz.f61 GJ n X0 (hT:=λm _=>.m1 (YF m))
theorem Ol (n:Nat):kE TZp Tryz.f61 (GI.e n) GI.ws:=L1.ok Tryz.f61 GI n X0 (lt:=λn=>[GJ.e n]) (hT:=λm _=>⟨.nil,YF m,.nil,(.cc (Oj m) .nil),.nil⟩)
theorem Bq (n:Nat):bz TZp (UZ n):=cQ Tryz.f61 (X0 n) (ll:=[GI.e n]) (hT:=⟨.nil,YF n,.nil,(.cc (Ol n) .nil),.nil⟩)
abbrev YG (n:Nat):List cr:=UZ n::X0 n
theorem Zg (n:Nat):bA TZp (YG n):=.cons (Bq n) (YF n)
def oK (G:Sl->Sl->Sl->Int->Int->M Sl)(n:Nat)(a0 a1 a2:Sl)(a3 a4:Int):M Sl:=if decide (a4<a3) then AI (ao a2 a4 1) λx0=>AI (ar li x0) λ(x1:Int)=>AI (ao a0 x1 1) λx2=>AI (ar li x2) λ(x3:Int)=>if decide (1<x3) then AI (app false a1 1 ay 1 [vi x1]) λx4=>G a0 x4 a2 a3 (i64.wrap (a4+1)) else G a0 a1 a2 a3 (i64.wrap (a4+1)) else AS a1
def jy:Nat->Sl->Sl->Sl->Int->Int->M Sl|0=>λ_ _ _ _ _=>AT|n+1=>oK (jy n) n
theorem wL (n:Nat):jy (n+1)=oK (jy n) n:=rfl
def rn (n:Nat)(a0:Sl×Int):M Sl:=AI (aJ none aj [aS a0.1,vi a0.2]) λx0=>AI (bh [.sl,li] (aw x0)) λ(x1:Sl×Int)=>AI (dD n (x1.1,x1.2)) λx2=>if !decide (x2=0) then AS jb else AI (bh [.sl,li] (aw x0)) λ(x3:Sl×Int)=>AI (sZ n (x3.1,x3.2)) λx4=>AI (bh [.sl,li] (aw x0)) λ(x5:Sl×Int)=>AI (rm n (x5.1,x5.2)) λx6=>AI (jy n x6 jb x4.1 (↑x4.1.len:Int) 0) λx7=>AS x7
abbrev U0 (n:Nat):cr:=⟨37,[.agg [.sl,.int .i64]],[cH],λx=>rn n x⟩
abbrev GK:L1:=⟨[0,1,0,1,1,1,1,1],[(5,cH),(6,cH),(19,cH),(20,aB),(21,aB)],[(6,cH)],[6,8]++List.range' 21 14,0,λn=>υ5 (jy n)⟩
theorem Om (n:Nat):kE TZp Tryz.f37 (GK.e n) GK.ws:=L1.ok Tryz.f37 GK n YG (hT:=λm _=>.m1 (Zg m))
theorem Br (n:Nat):bz TZp (U0 n):=cQ Tryz.f37 (YG n) (ll:=[GK.e n]) (hT:=⟨.nil,Zg n,.nil,(.cc (Om n) .nil),.nil⟩)
abbrev Zh (n:Nat):List cr:=U0 n::YG n
theorem K42 (n:Nat):bA TZp (Zh n):=.cons (Br n) (Zg n)
def vj (n:Nat)(a0:Sl×Int):M Bool:=AI (aJ none aj [aS a0.1,vi a0.2]) λx0=>AI (bh [.sl,li] (aw x0)) λ(x1:Sl×Int)=>AI (dD n (x1.1,x1.2)) λx2=>if decide (x2=0) then AI (bh [.sl,li] (aw x0)) λ(x3:Sl×Int)=>AI (rn n (x3.1,x3.2)) λx4=>AS (decide ((↑x4.len:Int)=0)) else AS false
abbrev U1 (n:Nat):cr:=⟨15,[.agg [.sl,.int .i64]],[kP],λx=>vj n x⟩
theorem D1 (n:Nat):bz TZp (U1 n):=cQ Tryz.f15 (Zh n) (hT:=.m1 (K42 n))
abbrev YH (n:Nat):List cr:=U1 n::Zh n
theorem Zi (n:Nat):bA TZp (YH n):=.cons (D1 n) (K42 n)
def gT (G:θ->Sl->Int->Int->M (Unit⊕Int))(n:Nat)(a0:θ)(a1:Sl)(a2 a3:Int):M (Unit⊕Int):=if decide (a3<a2) then AI (ao a1 a3 1) λx0=>AI (ar li x0) λ(x1:Int)=>AI (nn a0) λx2=>AI (ar .sl ((x2.plus 0).plus 0)) λ(x3:Sl)=>AI (ao x3 x1 5) λx4=>AI (ar li (x4.plus 0)) λ(x5:Int)=>if !decide (x5=5) then AS (Sum.inr 16) else G a0 a1 a2 (i64.wrap (a3+1)) else AS (Sum.inl ())
def da:Nat->θ->Sl->Int->Int->M (Unit⊕Int)|0=>λ_ _ _ _=>AT|n+1=>gT (da n) n
theorem oL (n:Nat):da (n+1)=gT (da n) n:=rfl
def iC (n:Nat)(a0:θ)(a1:Addr)(a2:Int):M Int:=if decide (a2=6) then AI (ar .str (a1.plus 1)) λ(x0:ζ)=>AI (dW n x0) λx1=>if x1 then AS 11 else AS 0 else if decide (a2=10) then AI (ar .bool (a1.plus 2)) λ(x0:Bool)=>if x0 then AS 10 else AI (ar .sl (a1.plus 3)) λ(x1:Sl)=>AI (da n a0 x1 (↑x1.len:Int) 0) (cn (λx2=>AS 0) (λx2=>AS x2)) else AS 10
def gw (n:Nat)(a0:θ)(a1:Int×ζ×Bool×Sl×Sl):M Int:=AI (aJ none aH [vi a1.1,.string a1.2.1,.bool a1.2.2.1,aS a1.2.2.2.1,aS a1.2.2.2.2]) λx0=>AI (ar li ((aw x0).plus 0)) λ(x1:Int)=>if decide (x1=2) then AS 0 else if decide (x1=5) then AS 0 else if decide (x1=9) then AS 0 else iC n a0 (aw x0) x1
abbrev U2 (n:Nat):cr:=⟨38,[rW,.agg [.int .i64,.str,.bool,.sl,.sl]],[aB],υ2 (gw n)⟩
abbrev GL:L2:=⟨[0,1,0,1,0,1,1,1,1,1,0,1,0,1],[(0,rW),(23,cH),(24,aB),(25,aB)],[],[(4,aB)],[4,6]++List.range' 25 15,1,.ret,λn=>υ4 (da n)⟩
abbrev Wo (n:Nat):List (jd Int):=[⟨[0,1,1,0,1,0,1],[.code [1,1,1,0,1,0,1],.aD 0,.code [1,1]],[(0,rW),(3,aV),(8,aB)],υ3 (iC n)⟩]
theorem On (n:Nat):kE TZp Tryz.f38 (GL.e n) GL.ws:=L2.ok Tryz.f38 GL n YH (hT:=λm _=>.m1 (Zi m))
theorem rq (n:Nat):bz TZp (U2 n):=cQ Tryz.f38 (YH n) (ll:=[GL.e n]) (js:=Wo n) (hT:=⟨.nil,Zi n,.nil,(.cc (On n) .nil),(.cc .nil)⟩)
abbrev Zj (n:Nat):List cr:=U2 n::YH n
theorem K44 (n:Nat):bA TZp (Zj n):=.cons (rq n) (Zi n)
def ez (n:Nat)(a0:θ):M Unit:=AI (nn a0) λx0=>AI (ar .ptr (x0.plus 0)) λ(x1:θ)=>if Option.isNone x1 then AI (nn a0) λx2=>AI (Yr x2) λx3=>AI (oi n (some x3)) λx4=>AI (nn x4) λx5=>AI (Ys zl 2 x5) λx6=>AI (nn a0) λx7=>AI (bE (x7.plus 0) [.pointer (some x6)]) λx8=>AS () else AI (nn a0) λx2=>AI (ar .ptr (x2.plus 0)) λ(x3:θ)=>AI (Sq x3 a0) λx4=>if !x4 then AT else AS ()
abbrev U3 (n:Nat):cr:=⟨63,[rW],[],λx=>ez n x⟩
theorem qG (n:Nat):bz TZp (U3 n):=cQ Tryz.f63 (Zj n) (hT:=.m1 (K44 n))
abbrev Zk (n:Nat):List cr:=U3 n::Zj n
theorem K45 (n:Nat):bA TZp (Zk n):=.cons (qG n) (K44 n)
def db (n:Nat)(a0:θ)(a1:ζ):M (Int×ξ):=AI (ez n a0) λx0=>AI (nn a0) λx1=>AI (ar .sl (x1.plus 1)) λ(x2:Sl)=>AI (app false x2 1 uf a1.size (bO a1)) λx3=>AI (nn a0) λx4=>AI (bE (x4.plus 1) [aS x3]) λx5=>AS ((↑a1.size:Int),Value.nilIface)
abbrev U4 (n:Nat):cr:=⟨39,[rW,yR],[aB,rX],υ2 (db n)⟩
theorem pP (n:Nat):bz TZp (U4 n):=cQ Tryz.f39 (Zk n) (hT:=.m1 (K45 n))
abbrev Zl (n:Nat):List cr:=U4 n::Zk n
theorem K46 (n:Nat):bA TZp (Zl n):=.cons (pP n) (K45 n)
def cm (n:Nat)(a0:θ)(a1:Int):M ξ:=AI (ez n a0) λx0=>AI (nn a0) λx1=>AI (ar .sl (x1.plus 1)) λ(x2:Sl)=>AI (app false x2 1 uf 1 [.int IntKind.u8 a1]) λx3=>AI (nn a0) λx4=>AI (bE (x4.plus 1) [aS x3]) λx5=>AS Value.nilIface
abbrev U5 (n:Nat):cr:=⟨40,[rW,.one (.int .u8)],[rX],υ2 (cm n)⟩
theorem qH (n:Nat):bz TZp (U5 n):=cQ Tryz.f40 (Zl n) (hT:=.m1 (K46 n))
abbrev Zm (n:Nat):List cr:=U5 n::Zl n
theorem K47 (n:Nat):bA TZp (Zm n):=.cons (qH n) (K46 n)
def fg (n:Nat)(a0:θ)(a1:ζ):M Unit:=AI (nn a0) λx0=>AI (strconv_Itoa n (↑a1.size:Int)) λx1=>AI (db n (some (x0.plus 2)) x1) λx2=>AI (nn a0) λx3=>AI (cm n (some (x3.plus 2)) 58) λx4=>AI (nn a0) λx5=>AI (db n (some (x5.plus 2)) a1) λx6=>AS ()
abbrev U6 (n:Nat):cr:=⟨44,[rW,yR],[],υ2 (fg n)⟩
def Wq (i:Nat):Option (List (Nat×η)):=Κ i 0 (Ω [0,1,2,3,4,5,6]) none
theorem r9 (n:Nat):bz TZp (U6 n):=cQ Tryz.f44 (Zm n) (dr:=Wq) (hT:=.m1 (K47 n))
abbrev C48 (n:Nat):List cr:=U6 n::Zm n
theorem K48 (n:Nat):bA TZp (C48 n):=.cons (r9 n) (K47 n)
structure az where
 cD:Addr->Addr->Sl->Int->Int->M Unit
 cF:Addr->Addr->Sl->Int->Int->M Unit
 cG:Addr->Sl->Int->Int->M Unit
 cJ:θ->Int->M Unit
def hC (G:az)(n:Nat)(a0 a1:Addr)(a2:Sl)(a3 a4:Int):M Unit:=if decide (a4<a3) then AI (ao a2 a4 1) λx0=>AI (ar li x0) λ(x1:Int)=>AI (ar .ptr a0) λ(x2:θ)=>AI (ar .ptr a0) λ(x3:θ)=>AI (nn x3) λx4=>AI (ar .sl ((x4.plus 0).plus 0)) λ(x5:Sl)=>AI (ar .sl (a1.plus 3)) λ(x6:Sl)=>AI (ao x6 x1 1) λx7=>AI (ar li x7) λ(x8:Int)=>AI (ao x5 x8 5) λx9=>AI (ar .str (x9.plus 1)) λ(eU:ζ)=>AI (fg n x2 eU) λx11=>AI (ar .ptr a0) λ(x12:θ)=>AI (ar .sl (a1.plus 4)) λ(x13:Sl)=>AI (ao x13 x1 1) λx14=>AI (ar li x14) λ(x15:Int)=>AI (G.cJ x12 x15) λx16=>G.cD a0 a1 a2 a3 (i64.wrap (a4+1)) else AS ()
def hG (G:az)(n:Nat)(a0 a1:Addr)(a2:Sl)(a3 a4:Int):M Unit:=if decide (a4<a3) then AI (ao a2 a4 1) λx0=>AI (bE x0 [vi a4]) λx1=>G.cF a0 a1 a2 a3 (i64.wrap (a4+1)) else AS ()
def ic (G:az)(n:Nat)(a0:Addr)(a1:Sl)(a2 a3:Int):M Unit:=if decide (a3<a2) then AI (ao a1 a3 1) λx0=>AI (ar li x0) λ(x1:Int)=>AI (ar .ptr a0) λ(x2:θ)=>AI (G.cJ x2 x1) λx3=>G.cG a0 a1 a2 (i64.wrap (a3+1)) else AS ()
def dS (G:az)(n:Nat)(a0 a1:Addr):M Unit:=AI (ar .ptr a0) λ(x0:θ)=>AI (nn x0) λx1=>AI (ar li (x1.plus 4)) λ(x2:Int)=>if !decide (x2=0) then AS () else AI (ar li (a1.plus 0)) λ(x3:Int)=>if decide (x3=2) then AI (ar .ptr a0) λ(x4:θ)=>AI (nn x4) λx5=>AI (ar .str (a1.plus 1)) λ(x6:ζ)=>AI (yS (ofBytes [105]) x6) λx7=>AI (yS x7 (ofBytes [101])) λx8=>AI (db n (some (x5.plus 2)) x8) λx9=>AS () else if decide (x3=9) then AI (ar .ptr a0) λ(x4:θ)=>AI (nn x4) λx5=>AI (cm n (some (x5.plus 2)) 108) λx6=>AI (ar .sl (a1.plus 4)) λ(x7:Sl)=>AI (G.cG a0 x7 (↑x7.len:Int) 0) λx8=>AI (ar .ptr a0) λ(x9:θ)=>AI (nn x9) λeU=>AI (cm n (some (eU.plus 2)) 101) λx11=>AS () else if decide (x3=10) then AI (ar .ptr a0) λ(x4:θ)=>AI (nn x4) λx5=>AI (cm n (some (x5.plus 2)) 100) λx6=>AI (ar .sl (a1.plus 3)) λ(x7:Sl)=>AI (pT none ay [vi 0] (↑x7.len:Int) (↑x7.len:Int)) λx8=>AI (G.cF a0 a1 x8 (↑x8.len:Int) 0) λx9=>AI (cI n x8 (Value.func (Fn.func iw) #[] #[.pointer (some a0),.pointer (some a1)])) λeU=>AI (G.cD a0 a1 x8 (↑x8.len:Int) 0) λx11=>AI (ar .ptr a0) λ(x12:θ)=>AI (nn x12) λx13=>AI (cm n (some (x13.plus 2)) 101) λx14=>AS () else AI (ar .ptr a0) λ(x4:θ)=>AI (ar .str (a1.plus 1)) λ(x5:ζ)=>AI (fg n x4 x5) λx6=>AS ()
def jn (G:az)(n:Nat)(a0:θ)(a1:Int):M Unit:=AI (aJ none nJ [.pointer a0]) λx0=>AI (ar .ptr (aw x0)) λ(x1:θ)=>AI (nn x1) λx2=>AI (ar .sl ((x2.plus 0).plus 0)) λ(x3:Sl)=>AI (ao x3 a1 5) λx4=>AI (bh [li,.str,.bool,.sl,.sl] x4) λ(x5:Int×ζ×Bool×Sl×Sl)=>AI (aJ none aH [vi 0,.string (ofBytes []),.bool false,aZ,aZ]) λx6=>AI (bE (aw x6) [vi x5.1,.string x5.2.1,.bool x5.2.2.1,aS x5.2.2.2.1,aS x5.2.2.2.2]) λx7=>AI (ar .ptr (aw x0)) λ(x8:θ)=>AI (nn x8) λx9=>AI (ar li (x9.plus 4)) λ(eU:Int)=>if decide (eU=0) then AI (ar .ptr (aw x0)) λ(x11:θ)=>AI (ar .ptr (aw x0)) λ(x12:θ)=>AI (bh [li,.str,.bool,.sl,.sl] (aw x6)) λ(x13:Int×ζ×Bool×Sl×Sl)=>AI (kO [some (aw x0)] (gw n x12 (x13.1,x13.2.1,x13.2.2.1,x13.2.2.2.1,x13.2.2.2.2))) λx14=>AI (nn x11) λx15=>AI (bE (x15.plus 4) [vi x14]) λx16=>dS G n (aw x0) (aw x6) else dS G n (aw x0) (aw x6)
def az.at:Nat->az|0=>⟨λ_ _ _ _ _=>AT,λ_ _ _ _ _=>AT,λ_ _ _ _=>AT,λ_ _=>AT⟩|n+1=>⟨hC (az.at n) n,hG (az.at n) n,ic (az.at n) n,jn (az.at n) n⟩
def cD (n:Nat):=(az.at n).cD
theorem o9 (n:Nat):cD (n+1)=hC (az.at n) n:=rfl
def cF (n:Nat):=(az.at n).cF
theorem pc (n:Nat):cF (n+1)=hG (az.at n) n:=rfl
def cG (n:Nat):=(az.at n).cG
theorem pd (n:Nat):cG (n+1)=ic (az.at n) n:=rfl
def cJ (n:Nat):=(az.at n).cJ
theorem qI (n:Nat):cJ (n+1)=jn (az.at n) n:=rfl
def sb (n:Nat):=dS (az.at n) n
abbrev Q5 (n:Nat):cr:=⟨16,[rW,aB],[],υ2 (cJ n)⟩
abbrev GM:L1:=⟨[0,1,0,1,0,1,1,1,0,1,1,1,1,1],[(2,aV),(58,cH),(59,aB),(60,aB)],[],[6]++List.range' 60 8,1,λn=>υ4 (cG n)⟩
abbrev GN:L1:=⟨[0,1,0,1,1,0,1,1,1,1,1,0,1,1,1,1,1],[(2,aV),(4,aV),(7,cH),(83,aB),(84,aB)],[],[8]++List.range' 84 8,3,λn=>υ5 (cF n)⟩
abbrev GO:L1:=⟨[0,1,0,1,1,1,1,0,1,1,1,1,1,0,1,1,1,1,1],[(2,aV),(4,aV),(95,cH),(96,aB),(97,aB)],[],[10]++List.range' 97 27,5,λn=>υ5 (cD n)⟩
abbrev U7 (n:Nat):List cr:=Q5 n::C48 n
def GP (i:Nat):Option (List (Nat×η)):=Κ i 3 (Ω [0,1,2]++[(3,[0])]++Ω [4,5,6]) (Κ i 8 (Ω [3,0,1,2,4,5,6,7]) (Κ i 29 (Ω [6,8,0,1,2,3,4,5,7,9,10,11,12,13,14]) (Κ i 30 (Ω [1,3,0,2,4,5,6]) none)))
abbrev Ws (n:Nat):List (jd Unit):=[⟨[0,0,1,1,1],[.code [1,0,1,1,1],.code [1,1,1,1]],[(2,aV),(4,aV)],υ2 (sb n)⟩]
def dI (n:Nat):Prop:=bz TZp (Q5 n)
theorem IG (n:Nat)(H:dI n):bA TZp (U7 n):=.cons H (K48 n)
theorem Oo (n:Nat)(H:∀m,m<n->dI m):kE TZp Tryz.f16 (GO.e n) GO.ws:=L1.ok Tryz.f16 GO n U7 (dr:=GP) (hT:=λm hm=>.m1 (IG m (H m hm)))
theorem Oq (n:Nat)(H:∀m,m<n->dI m):kE TZp Tryz.f16 (GN.e n) GN.ws:=L1.ok Tryz.f16 GN n U7 (dr:=GP) (hT:=λm hm=>.m1 (IG m (H m hm)))
theorem Ot (n:Nat)(H:∀m,m<n->dI m):kE TZp Tryz.f16 (GM.e n) GM.ws:=L1.ok Tryz.f16 GM n U7 (dr:=GP) (hT:=λm hm=>.m1 (IG m (H m hm)))
theorem pf (n:Nat)(H:∀m,m<n+1->dI m):bz TZp (Q5 (n+1)):=cQ Tryz.f16 (U7 n) (ll:=[GM.e n,GN.e n,GO.e n]) (dr:=GP) (js:=Ws n) (hT:=⟨.nil,IG n (H n (aad n)),.nil,(.cc (Ot n (λk hk=>H k (aal hk))) (.cc (Oq n (λk hk=>H k (aal hk))) (.cc (Oo n (λk hk=>H k (aal hk))) .nil))),(.cc .nil)⟩)
theorem qn:∀n m,m<n->dI m:=by
 intro n
 induction n with
 |zero=>intro m hm;exact absurd hm (abc m)
 |succ n ih=>
  intro m hm;cases m with
  |zero=>exact eg (fn:=Tryz.f16) (by kernel_rfl) (by kernel_rfl) (by kernel_rfl) (λ_=>rfl)
  |succ k=>exact pf k λm hm=>ih m (by omega)
theorem K49 (n:Nat):bA TZp (U7 n):=IG n (qn (n+1) n (aad n))
def j4 (n:Nat)(a0:θ):M Int:=AI (nn a0) λx0=>AI (ar .sl (x0.plus 1)) λ(x1:Sl)=>AS (↑x1.len:Int)
abbrev U8 (n:Nat):cr:=⟨17,[rW],[aB],λx=>j4 n x⟩
theorem vk (n:Nat):bz TZp (U8 n):=cQ Tryz.f17 (U7 n) (hT:=.m1 (K49 n))
abbrev Zn (n:Nat):List cr:=U8 n::U7 n
theorem K50 (n:Nat):bA TZp (Zn n):=.cons (vk n) (K49 n)
def iD (n:Nat)(a0:θ):M ζ:=AI (nn a0) λx0=>AI (nn a0) λx1=>AI (ar .sl (x0.plus 1)) λ(x2:Sl)=>AI (AO x2.a x2.len) λx3=>AI (ar .sl (x1.plus 1)) λ(x4:Sl)=>AI (SC uf x3 (↑x4.len:Int)) λx5=>AS x5
abbrev U9 (n:Nat):cr:=⟨18,[rW],[yR],λx=>iD n x⟩
def Wt (i:Nat):Option (List (Nat×η)):=Κ i 1 (Ω [0,1,2,5,6,7,3,4,8,9,10,11]) none
theorem sH (n:Nat):bz TZp (U9 n):=cQ Tryz.f18 (Zn n) (dr:=Wt) (hT:=.m1 (K50 n))
abbrev Zo (n:Nat):List cr:=U9 n::Zn n
theorem K51 (n:Nat):bA TZp (Zo n):=.cons (sH n) (K50 n)
def dX (n:Nat)(a0:Sl×Int):M (ζ×Int):=AI (aJ none aj [aS a0.1,vi a0.2]) λx0=>AI (bh [.sl,li] (aw x0)) λ(x1:Sl×Int)=>AI (dD n (x1.1,x1.2)) λx2=>if !decide (x2=0) then AS ((ofBytes []),3) else AI (bh [.sl,li] (aw x0)) λ(x3:Sl×Int)=>AI (rl n (x3.1,x3.2)) λx4=>if x4.2 then AS ((ofBytes []),14) else AI (bh [.sl,li] (aw x0)) λ(x5:Sl×Int)=>AI (vj n (x5.1,x5.2)) λx6=>if !x6 then AS ((ofBytes []),15) else AI (bh [.sl,li] (aw x0)) λ(x7:Sl×Int)=>AI (aJ none gz [aS x7.1,vi x7.2,.pointer none,aZ,vi 0]) λx8=>AI (ar li ((aw x0).plus 1)) λ(x9:Int)=>AI (cJ n (some (aw x8)) x9) λeU=>AI (nn (some (aw x8))) λx11=>AI (ar li (x11.plus 4)) λ(x12:Int)=>if !decide (x12=0) then AI (nn (some (aw x8))) λx13=>AI (ar li (x13.plus 4)) λ(x14:Int)=>AS ((ofBytes []),x14) else AI (nn (some (aw x8))) λx13=>AI (j4 n (some (x13.plus 2))) λx14=>if decide (65536<x14) then AS ((ofBytes []),6) else AI (nn (some (aw x8))) λx15=>AI (iD n (some (x15.plus 2))) λx16=>AS (x16,0)
abbrev X1 (n:Nat):cr:=⟨6,[.agg [.sl,.int .i64]],[yR,aB],λx=>dX n x⟩
def X2 (i:Nat):Option (List (Nat×η)):=Κ i 11 (Ω [0,1,2,4,3,5]) none
theorem qS (n:Nat):bz TZp (X1 n):=cQ Tryz.f6 (Zo n) (dr:=X2) (hT:=.m1 (K51 n))
abbrev YJ (n:Nat):List cr:=X1 n::Zo n
theorem Zp (n:Nat):bA TZp (YJ n):=.cons (qS n) (K51 n)
def nC (G:Int->Sl->Int->Int->M Unit)(n:Nat)(a0:Int)(a1:Sl)(a2 a3:Int):M Unit:=if decide (a3<a2) then AI (ao a1 a3 1) λx0=>AI (ar li x0) λ(x1:Int)=>AI (ao a1 a3 1) λx2=>AI (bE x2 [vi (i64.wrap (x1+a0))]) λx3=>G a0 a1 a2 (i64.wrap (a3+1)) else AS ()
def kB:Nat->Int->Sl->Int->Int->M Unit|0=>λ_ _ _ _=>AT|n+1=>nC (kB n) n
def mR (n:Nat)(a0:Sl)(a1:Int):M Sl:=AI (pT none ay [vi 0] (↑a0.len:Int) (↑a0.len:Int)) λx0=>AI (xL x0 a0 1) λx1=>AI (kB n a1 x0 (↑x0.len:Int) 0) λx2=>AS x0
abbrev Va (n:Nat):cr:=⟨45,[cH,aB],[cH],υ2 (mR n)⟩
abbrev GQ:L1:=⟨[0,1,0,1,1,1],[(1,aB),(5,cH),(14,aB),(15,aB)],[],[6]++List.range' 15 11,0,λn=>υ4 (kB n)⟩
theorem Ou (n:Nat):kE TZp Tryz.f45 (GQ.e n) GQ.ws:=L1.ok Tryz.f45 GQ n YJ (hT:=λm _=>.m1 (Zp m))
theorem Au (n:Nat):bz TZp (Va n):=cQ Tryz.f45 (YJ n) (ll:=[GQ.e n]) (hT:=⟨.nil,Zp n,.nil,(.cc (Ou n) .nil),.nil⟩)
abbrev YK (n:Nat):List cr:=Va n::YJ n
theorem Zq (n:Nat):bA TZp (YK n):=.cons (Au n) (Zp n)
def mC (G:Sl->Addr->Int->Sl->Int->Int->M Sl)(n:Nat)(a0:Sl)(a1:Addr)(a2:Int)(a3:Sl)(a4 a5:Int):M Sl:=if decide (a5<a4) then AI (ao a3 a5 5) λx0=>AI (bh [li,.str,.bool,.sl,.sl] x0) λ(x1:Int×ζ×Bool×Sl×Sl)=>AI (aJ none aH [vi 0,.string (ofBytes []),.bool false,aZ,aZ]) λx2=>AI (bE (aw x2) [vi x1.1,.string x1.2.1,.bool x1.2.2.1,aS x1.2.2.2.1,aS x1.2.2.2.2]) λx3=>AI (ar .sl ((aw x2).plus 3)) λ(x4:Sl)=>AI (ar .sl ((aw x2).plus 4)) λ(x5:Sl)=>AI (kO [some ((aw x2).plus 4)] (mR n x4 a2)) λx6=>AI (mR n x5 a2) λx7=>AI (bE ((aw x2).plus 3) [aS x6]) λx8=>AI (bE ((aw x2).plus 4) [aS x7]) λx9=>AI (bh [li,.str,.bool,.sl,.sl] (aw x2)) λ(eU:Int×ζ×Bool×Sl×Sl)=>AI (app false a0 5 aH 1 [vi eU.1,.string eU.2.1,.bool eU.2.2.1,aS eU.2.2.2.1,aS eU.2.2.2.2]) λx11=>G x11 a1 a2 a3 a4 (i64.wrap (a5+1)) else AS a0
def jP:Nat->Sl->Addr->Int->Sl->Int->Int->M Sl|0=>λ_ _ _ _ _ _=>AT|n+1=>mC (jP n) n
def kC (n:Nat)(a0:Sl)(a1:Sl×Int):M (Sl×Int):=AI (aJ none aj [aS a1.1,vi a1.2]) λx0=>AI (ar .sl ((aw x0).plus 0)) λ(x1:Sl)=>AI (jP n a0 (aw x0) (↑a0.len:Int) x1 (↑x1.len:Int) 0) λx2=>AI (ar li ((aw x0).plus 1)) λ(x3:Int)=>AS (x2,i64.wrap (x3+(↑a0.len:Int)))
abbrev Vb (n:Nat):cr:=⟨19,[cH,.agg [.sl,.int .i64]],[cH,aB],υ2 (kC n)⟩
abbrev GR:L1:=⟨[0,1,0,1,1],[(0,cH),(3,aV),(6,aB),(12,cH),(13,aB),(14,aB)],[(0,cH)],[0,8]++List.range' 14 19,0,λn=>υ6 (jP n)⟩
def Q6 (i:Nat):Option (List (Nat×η)):=Κ i 5 (Ω [0,2,4,6,1,5]++[(3,[5])]++Ω [8,7,9,10,11]) (Κ i 8 (Ω [0,1,3,5,2,4,6]) none)
theorem Ov (n:Nat):kE TZp Tryz.f19 (GR.e n) GR.ws:=L1.ok Tryz.f19 GR n YK (dr:=Q6) (hT:=λm _=>.m1 (Zq m))
theorem zB (n:Nat):bz TZp (Vb n):=cQ Tryz.f19 (YK n) (ll:=[GR.e n]) (dr:=Q6) (hT:=⟨.nil,Zq n,.nil,(.cc (Ov n) .nil),.nil⟩)
abbrev Zr (n:Nat):List cr:=Vb n::YK n
theorem K54 (n:Nat):bA TZp (Zr n):=.cons (zB n) (Zq n)
def mS (n:Nat)(a0:Sl×Int):M ((Sl×Int)×Int):=AI (aJ none aj [aS a0.1,vi a0.2]) λx0=>AI (aJ none aj [aZ,vi 0]) λx1=>AI (bh [.sl,li] (aw x0)) λ(x2:Sl×Int)=>AI (dD n (x2.1,x2.2)) λx3=>if !decide (x3=0) then AI (bE (aw x1) [aZ,vi 0]) λx4=>AI (bh [.sl,li] (aw x1)) λ(x5:Sl×Int)=>AS ((x5.1,x5.2),x3) else AI (bh [.sl,li] (aw x0)) λ(x4:Sl×Int)=>AI (bE (aw x1) [aS x4.1,vi x4.2]) λx5=>AI (bh [.sl,li] (aw x1)) λ(x6:Sl×Int)=>AS ((x6.1,x6.2),0)
abbrev Vc (n:Nat):cr:=⟨20,[.agg [.sl,.int .i64]],[.agg [.sl,.int .i64],aB],λx=>mS n x⟩
theorem Av (n:Nat):bz TZp (Vc n):=cQ Tryz.f20 (Zr n) (hT:=.m1 (K54 n))
abbrev X3 (n:Nat):List cr:=Vc n::Zr n
theorem YL (n:Nat):bA TZp (X3 n):=.cons (Av n) (K54 n)
def qJ (G:Addr->Sl->Sl->Int->Int->M Sl)(n:Nat)(a0:Addr)(a1 a2:Sl)(a3 a4:Int):M Sl:=if decide (a4<a3) then AI (ao a2 a4 2) λx0=>AI (bh [.sl,li] x0) λ(x1:Sl×Int)=>AI (aJ none aj [aZ,vi 0]) λx2=>AI (bE (aw x2) [aS x1.1,vi x1.2]) λx3=>AI (bh [.sl,li] (aw x2)) λ(x4:Sl×Int)=>AI (kC n a1 (x4.1,x4.2)) λx5=>AI (ao x5.1 0 5) λx6=>AI (ar .sl (x6.plus 4)) λ(x7:Sl)=>AI (app false x7 1 ay 1 [vi x5.2]) λx8=>AI (ao x5.1 0 5) λx9=>AI (bE (x9.plus 4) [aS x8]) λeU=>G a0 x5.1 a2 a3 (i64.wrap (a4+1)) else AS a1
def mT:Nat->Addr->Sl->Sl->Int->Int->M Sl|0=>λ_ _ _ _ _=>AT|n+1=>qJ (mT n) n
def qK (G:Sl->Addr->Sl->Sl->Int->Int->M (Unit⊕Int))(n:Nat)(a0:Sl)(a1:Addr)(a2 a3:Sl)(a4 a5:Int):M (Unit⊕Int):=if decide (a5<a4) then AI (ao a3 a5 2) λx0=>AI (bh [.sl,li] x0) λ(x1:Sl×Int)=>AI (aJ none aj [aZ,vi 0]) λx2=>AI (bE (aw x2) [aS x1.1,vi x1.2]) λx3=>AI (bh [.sl,li] (aw x2)) λ(x4:Sl×Int)=>AI (dD n (x4.1,x4.2)) λx5=>if !decide (x5=0) then AI (bE a1 [aZ,vi 0]) λx6=>AS (Sum.inr 3) else G a0 a1 a2 a3 a4 (i64.wrap (a5+1)) else AS (Sum.inl ())
def mU:Nat->Sl->Addr->Sl->Sl->Int->Int->M (Unit⊕Int)|0=>λ_ _ _ _ _ _=>AT|n+1=>qK (mU n) n
def sd (n:Nat)(a0:Sl):M ((Sl×Int)×Int):=AI (aJ none aj [aZ,vi 0]) λx0=>AI (aJ none aH [vi 9,.string (ofBytes []),.bool false,aZ,aZ]) λx1=>AI (mU n a0 (aw x0) { a:=some (aw x1),len:=1,cap:=2 } a0 (↑a0.len:Int) 0) (cn (λx2=>AI (mT n (aw x0) { a:=some (aw x1),len:=1,cap:=2 } a0 (↑a0.len:Int) 0) λx3=>AI (mS n (x3,0)) λx4=>AI (bE (aw x0) [aS x4.1.1,vi x4.1.2]) λx5=>AI (bh [.sl,li] (aw x0)) λ(x6:Sl×Int)=>AS ((x6.1,x6.2),x4.2)) (λx2=>AI (bh [.sl,li] (aw x0)) λ(x3:Sl×Int)=>AS ((x3.1,x3.2),x2)))
abbrev X4 (n:Nat):cr:=⟨7,[cH],[.agg [.sl,.int .i64],aB],λx=>sd n x⟩
abbrev LX:L2:=⟨[0,1,0,1,1],[(0,cH),(2,aV),(4,cH),(12,cH),(13,aB),(14,aB)],[],[(3,aB)],[3,6]++List.range' 14 9,0,.ret,λn=>υ6 (mU n)⟩
abbrev LY:L1:=⟨[0,1,0,1,1,1],[(2,aV),(4,cH),(23,cH),(24,aB),(25,aB)],[(4,cH)],[4,8,9]++List.range' 25 21,2,λn=>υ5 (mT n)⟩
theorem Q7 (n:Nat):kE TZp Tryz.f7 (LY.e n) LY.ws:=L1.ok Tryz.f7 LY n X3 (hT:=λm _=>.m1 (YL m))
theorem Q8 (n:Nat):kE TZp Tryz.f7 (LX.e n) LX.ws:=L2.ok Tryz.f7 LX n X3 (hT:=λm _=>.m1 (YL m))
theorem D2 (n:Nat):bz TZp (X4 n):=cQ Tryz.f7 (X3 n) (ll:=[LX.e n,LY.e n]) (hT:=⟨.nil,YL n,.nil,(.cc (Q8 n) (.cc (Q7 n) .nil)),.nil⟩)
abbrev Zs (n:Nat):List cr:=X4 n::X3 n
theorem K56 (n:Nat):bA TZp (Zs n):=.cons (D2 n) (YL n)
def nj (n:Nat)(a0:Int)(a1:ζ)(a2:Addr):M ((Sl×Int)×Int):=AI (kU n a0 a1) λx0=>if !x0 then AI (bE a2 [aZ,vi 0]) λx1=>AI (bh [.sl,li] a2) λ(x2:Sl×Int)=>AS ((x2.1,x2.2),3) else AI (aJ none aH [vi a0,.string a1,.bool false,aZ,aZ]) λx1=>AI (bE a2 [.slice (some (aw x1)) 1 2,vi 0]) λx2=>AI (bh [.sl,li] a2) λ(x3:Sl×Int)=>AS ((x3.1,x3.2),0)
def ru (n:Nat)(a0:Int)(a1:ζ):M ((Sl×Int)×Int):=AI (aJ none aj [aZ,vi 0]) λx0=>if decide (a0<0) then AI (bE (aw x0) [aZ,vi 0]) λx1=>AI (bh [.sl,li] (aw x0)) λ(x2:Sl×Int)=>AS ((x2.1,x2.2),1) else if decide (8<a0) then AI (bE (aw x0) [aZ,vi 0]) λx1=>AI (bh [.sl,li] (aw x0)) λ(x2:Sl×Int)=>AS ((x2.1,x2.2),1) else nj n a0 a1 (aw x0)
abbrev Vd (n:Nat):cr:=⟨21,[aB,yR],[.agg [.sl,.int .i64],aB],υ2 (ru n)⟩
abbrev Wu (n:Nat):List (jd ((Sl×Int)×Int)):=[⟨[0,0,1,1],[.code [1,0,1,1],.code [1,1,1]],[(0,aB),(1,yR),(4,aV)],υ3 (nj n)⟩]
theorem Bs (n:Nat):bz TZp (Vd n):=cQ Tryz.f21 (Zs n) (js:=Wu n) (hT:=⟨.nil,K56 n,.nil,.nil,(.cc .nil)⟩)
abbrev Zt (n:Nat):List cr:=Vd n::Zs n
theorem K57 (n:Nat):bA TZp (Zt n):=.cons (Bs n) (K56 n)
def bq (n:Nat)(a0:Int)(a1:ζ):M (Sl×Int):=AI (aJ none aj [aZ,vi 0]) λx0=>AI (ru n a0 a1) λx1=>AI (aJ none aj [aZ,vi 0]) λx2=>AI (bE (aw x2) [aS x1.1.1,vi x1.1.2]) λx3=>AI (bh [.sl,li] (aw x2)) λ(x4:Sl×Int)=>AI (bE (aw x0) [aS x4.1,vi x4.2]) λx5=>AI (bh [.sl,li] (aw x0)) λ(x6:Sl×Int)=>AS (x6.1,x6.2)
abbrev X5 (n:Nat):cr:=⟨8,[aB,yR],[.agg [.sl,.int .i64]],υ2 (bq n)⟩
theorem vl (n:Nat):bz TZp (X5 n):=cQ Tryz.f8 (Zt n) (hT:=.m1 (K57 n))
abbrev YM (n:Nat):List cr:=X5 n::Zt n
theorem Zu (n:Nat):bA TZp (YM n):=.cons (vl n) (K57 n)
def oM (G:Sl->Int->Int->M (Unit⊕Bool))(n:Nat)(a0:Sl)(a1 a2:Int):M (Unit⊕Bool):=if decide (a2<a1) then AI (ao a0 a2 1) λx0=>AI (ar li x0) λ(x1:Int)=>if decide (1<x1) then AS (Sum.inr true) else G a0 a1 (i64.wrap (a2+1)) else AS (Sum.inl ())
def lp:Nat->Sl->Int->Int->M (Unit⊕Bool)|0=>λ_ _ _=>AT|n+1=>oM (lp n) n
def ry (n:Nat)(a0:Sl×Int):M Bool:=AI (aJ none aj [aS a0.1,vi a0.2]) λx0=>AI (bh [.sl,li] (aw x0)) λ(x1:Sl×Int)=>AI (kV n (x1.1,x1.2)) λx2=>AI (lp n x2 (↑x2.len:Int) 0) (cn (λx3=>AS false) (λx3=>AS x3))
abbrev Ve (n:Nat):cr:=⟨22,[.agg [.sl,.int .i64]],[kP],λx=>ry n x⟩
abbrev GS:L2:=⟨[0,1,0,1],[(6,cH),(7,aB),(8,aB)],[],[(2,kP)],[2,4]++List.range' 8 7,0,.ret,λn=>υ3 (lp n)⟩
theorem Ow (n:Nat):kE TZp Tryz.f22 (GS.e n) GS.ws:=L2.ok Tryz.f22 GS n YM (hT:=λm _=>.m1 (Zu m))
theorem Bt (n:Nat):bz TZp (Ve n):=cQ Tryz.f22 (YM n) (ll:=[GS.e n]) (hT:=⟨.nil,Zu n,.nil,(.cc (Ow n) .nil),.nil⟩)
abbrev X6 (n:Nat):List cr:=Ve n::YM n
theorem YN (n:Nat):bA TZp (X6 n):=.cons (Bt n) (Zu n)
def se (G:Addr->Sl->Sl->Int->Int->M (Sl⊕Int))(n:Nat)(a0:Addr)(a1 a2:Sl)(a3 a4:Int):M (Sl⊕Int):=if decide (a4<a3) then AI (ao a2 a4 4) λx0=>AI (bh [.sl,li,.sl,li] x0) λ(x1:Sl×Int×Sl×Int)=>AI (aJ none re [aZ,vi 0,aZ,vi 0]) λx2=>AI (bE (aw x2) [aS x1.1,vi x1.2.1,aS x1.2.2.1,vi x1.2.2.2]) λx3=>AI (bh [.sl,li] ((aw x2).plus 0)) λ(x4:Sl×Int)=>AI (ry n (x4.1,x4.2)) λx5=>if x5 then AI (bE a0 [aZ,vi 0]) λx6=>AS (Sum.inr 16) else AI (bh [.sl,li] ((aw x2).plus 0)) λ(x6:Sl×Int)=>AI (kC n a1 (x6.1,x6.2)) λx7=>AI (bh [.sl,li] ((aw x2).plus 2)) λ(x8:Sl×Int)=>AI (kC n x7.1 (x8.1,x8.2)) λx9=>AI (ao x9.1 0 5) λeU=>AI (ar .sl (eU.plus 3)) λ(x11:Sl)=>AI (app false x11 1 ay 1 [vi x7.2]) λx12=>AI (ao x9.1 0 5) λx13=>AI (bE (x13.plus 3) [aS x12]) λx14=>AI (ao x9.1 0 5) λx15=>AI (ar .sl (x15.plus 4)) λ(x16:Sl)=>AI (app false x16 1 ay 1 [vi x9.2]) λx17=>AI (ao x9.1 0 5) λx18=>AI (bE (x18.plus 4) [aS x17]) λx19=>G a0 x9.1 a2 a3 (i64.wrap (a4+1)) else AS (Sum.inl a1)
def oN:Nat->Addr->Sl->Sl->Int->Int->M (Sl⊕Int)|0=>λ_ _ _ _ _=>AT|n+1=>se (oN n) n
def sf (G:Bool->Sl->Addr->Sl->Int->Int->M (Unit⊕Int))(n:Nat)(a0:Bool)(a1:Sl)(a2:Addr)(a3:Sl)(a4 a5:Int):M (Unit⊕Int):=if decide (a5<a4) then AI (ao a3 a5 4) λx0=>AI (bh [.sl,li,.sl,li] x0) λ(x1:Sl×Int×Sl×Int)=>AI (aJ none re [aZ,vi 0,aZ,vi 0]) λx2=>AI (bE (aw x2) [aS x1.1,vi x1.2.1,aS x1.2.2.1,vi x1.2.2.2]) λx3=>AI (bh [.sl,li] ((aw x2).plus 0)) λ(x4:Sl×Int)=>AI (dD n (x4.1,x4.2)) λx5=>if !decide (x5=0) then AI (bE a2 [aZ,vi 0]) λx6=>AS (Sum.inr 3) else AI (bh [.sl,li] ((aw x2).plus 2)) λ(x6:Sl×Int)=>AI (dD n (x6.1,x6.2)) λx7=>if !decide (x7=0) then AI (bE a2 [aZ,vi 0]) λx8=>AS (Sum.inr 3) else G a0 a1 a2 a3 a4 (i64.wrap (a5+1)) else AS (Sum.inl ())
def oO:Nat->Bool->Sl->Addr->Sl->Int->Int->M (Unit⊕Int)|0=>λ_ _ _ _ _ _=>AT|n+1=>sf (oO n) n
def uq (n:Nat)(a0:Bool)(a1:Sl):M ((Sl×Int)×Int):=AI (aJ none aj [aZ,vi 0]) λx0=>AI (oO n a0 a1 (aw x0) a1 (↑a1.len:Int) 0) (cn (λx1=>AI (aJ none aH [vi 10,.string (ofBytes []),.bool a0,aZ,aZ]) λx2=>AI (oN n (aw x0) { a:=some (aw x2),len:=1,cap:=2 } a1 (↑a1.len:Int) 0) (cn (λx3=>AI (mS n (x3,0)) λx4=>AI (bE (aw x0) [aS x4.1.1,vi x4.1.2]) λx5=>AI (bh [.sl,li] (aw x0)) λ(x6:Sl×Int)=>AS ((x6.1,x6.2),x4.2)) (λx3=>AI (bh [.sl,li] (aw x0)) λ(x4:Sl×Int)=>AS ((x4.1,x4.2),x3)))) (λx1=>AI (bh [.sl,li] (aw x0)) λ(x2:Sl×Int)=>AS ((x2.1,x2.2),x1)))
abbrev X7 (n:Nat):cr:=⟨9,[kP,cH],[.agg [.sl,.int .i64],aB],υ2 (uq n)⟩
abbrev LZ:L2:=⟨[0,1,0,1],[(0,kP),(1,cH),(4,aV),(13,cH),(14,aB),(15,aB)],[],[(5,aB)],[5,7]++List.range' 15 16,0,.ret,λn=>υ6 (oO n)⟩
abbrev L3:L2:=⟨[0,1,0,1,1,1],[(4,aV),(8,cH),(34,cH),(35,aB),(36,aB)],[(8,cH)],[(5,aB)],[5,8,10,11,12]++List.range' 36 43,2,.ret,λn=>υ5 (oN n)⟩
theorem Q9 (n:Nat):kE TZp Tryz.f9 (L3.e n) L3.ws:=L2.ok Tryz.f9 L3 n X6 (hT:=λm _=>.m1 (YN m))
theorem Rb (n:Nat):kE TZp Tryz.f9 (LZ.e n) LZ.ws:=L2.ok Tryz.f9 LZ n X6 (hT:=λm _=>.m1 (YN m))
theorem GU (n:Nat):bz TZp (X7 n):=cQ Tryz.f9 (X6 n) (ll:=[LZ.e n,L3.e n]) (hT:=⟨.nil,YN n,.nil,(.cc (Rb n) (.cc (Q9 n) .nil)),.nil⟩)
abbrev Zv (n:Nat):List cr:=X7 n::X6 n
theorem K60 (n:Nat):bA TZp (Zv n):=.cons (GU n) (YN n)
def nD (n:Nat)(a0:Sl×Int):M (ζ×Int):=AI (aJ none aj [aS a0.1,vi a0.2]) λx0=>AI (bh [.sl,li] (aw x0)) λ(x1:Sl×Int)=>AI (dX n (x1.1,x1.2)) λx2=>AS (x2.1,x2.2)
abbrev Vf (n:Nat):cr:=⟨10,[.agg [.sl,.int .i64]],[yR,aB],λx=>nD n x⟩
theorem vS (n:Nat):bz TZp (Vf n):=cQ Tryz.f10 (Zv n) (hT:=.m1 (K60 n))
abbrev YO (n:Nat):List cr:=Vf n::Zv n
theorem Zw (n:Nat):bA TZp (YO n):=.cons (vS n) (K60 n)
def nE (n:Nat):M Bool:=AI (bq n 2 (ofBytes [49])) λx0=>AI (bq n 2 (ofBytes [45,50])) λx1=>AI (aJ none aj [aS x0.1,vi x0.2,aS x1.1,vi x1.2]) λx2=>AI (sd n { a:=some (aw x2),len:=2,cap:=3 }) λx3=>AI (aJ none aj [aZ,vi 0]) λx4=>AI (bE (aw x4) [aS x3.1.1,vi x3.1.2]) λx5=>AI (dT 14) λx6=>AI (bh [.sl,li] (aw x4)) λ(x7:Sl×Int)=>AI (aJ (some (x6+11)) aj [aZ,vi 0]) λx8=>AI (kO [some (aw x4),none] (vY (x6+11) (bq n 5 (ofBytes [98])))) λx9=>AI (kO [some (aw x4),none] (vY (x6+11) (bq n 5 (ofBytes [97])))) λeU=>AI (kO [some (aw x4),none] (vY (x6+11) (bq n 5 (ofBytes [])))) λx11=>AI (aJ (some (x6+6)) re [aS x9.1,vi x9.2,aS x7.1,vi x7.2,aS eU.1,vi eU.2,aS x11.1,vi x11.2]) λx12=>AI (kO [none] (vY (x6+11) (uq n false { a:=some (aw x12),len:=2,cap:=3 }))) λx13=>AI (bE (aw x8) [aS x13.1.1,vi x13.1.2]) λx14=>AI (bh [.sl,li] (aw x8)) λ(x15:Sl×Int)=>AI (dX n (x15.1,x15.2)) λx16=>AI (bq n 6 (ofBytes [255])) λx17=>AI (nD n (x17.1,x17.2)) λx18=>AI (bq n 6 (ofBytes [97,98])) λx19=>AI (dX n (x19.1,x19.2)) λx20=>if decide (x3.2=0) then if decide (x13.2=0) then if pj x16.1 (ofBytes [100,49,58,97,48,58,49,58,98,108,105,49,101,105,45,50,101,101,101]) then if decide (x16.2=0) then if pj x18.1 (ofBytes [49,58,255]) then if decide (x18.2=0) then AS (decide (x20.2=11)) else AS false else AS false else AS false else AS false else AS false else AS false
abbrev Zx (n:Nat):cr:=⟨4,[],[kP],λ_=>nE n⟩
def X8 (i:Nat):Option (List (Nat×η)):=Κ i 2 (Ω [1,11]++[(0,[1,11])]++Ω [2]++[(3,[1,11]),(4,[1,11])]++Ω [5,6]++[(7,[11])]++Ω [8,9,10,12,13]) none
theorem vT (n:Nat):bz TZp (Zx n):=cQ Tryz.f4 (YO n) (dr:=X8) (hT:=.m1 (Zw n))
def bw (n:Nat)(a0:θ)(a1 a2:Int):M Bool:=AI (nn a0) λx0=>AI (ar li (x0.plus 8)) λ(x1:Int)=>if decide (x1=0) then AI (nn a0) λx2=>AI (bE (x2.plus 9) [vi a1]) λx3=>AI (nn a0) λx4=>AI (bE (x4.plus 8) [vi a2]) λx5=>AS false else AS false
abbrev Vg (n:Nat):cr:=⟨12,[rW,aB,aB],[kP],υ3 (bw n)⟩
theorem vm (n:Nat):bz TZp (Vg n):=cQ Tryz.f12 (YO n) (hT:=.m1 (Zw n))
abbrev Zy (n:Nat):List cr:=Vg n::YO n
theorem K62 (n:Nat):bA TZp (Zy n):=.cons (vm n) (Zw n)
def dZ (n:Nat)(a0:θ):M Bool:=AI (nn a0) λx0=>AI (nn a0) λx1=>AI (ar li (x0.plus 1)) λ(x2:Int)=>AI (ar .str (x1.plus 0)) λ(x3:ζ)=>if decide ((↑(ByteArray.size x3):Int)<=x2) then AI (nn a0) λx4=>AI (ar .str (x4.plus 0)) λ(x5:ζ)=>AI (bw n a0 (↑(ByteArray.size x5):Int) 4) λx6=>AS x6 else AI (nn a0) λx4=>AI (ar li (x4.plus 8)) λ(x5:Int)=>AS (decide (x5=0))
abbrev Vh (n:Nat):cr:=⟨23,[rW],[kP],λx=>dZ n x⟩
def Wv (i:Nat):Option (List (Nat×η)):=Κ i 1 (Ω [0,1,2,4,5,6,3,7,8,9]) none
theorem vn (n:Nat):bz TZp (Vh n):=cQ Tryz.f23 (Zy n) (dr:=Wv) (hT:=.m1 (K62 n))
abbrev Zz (n:Nat):List cr:=Vh n::Zy n
theorem K63 (n:Nat):bA TZp (Zz n):=.cons (vn n) (K62 n)
def dn (n:Nat)(a0:θ)(a1:Int×ζ×Bool×Sl×Sl)(a2 a3:Int):M (Int×Bool):=AI (aJ none aH [vi a1.1,.string a1.2.1,.bool a1.2.2.1,aS a1.2.2.2.1,aS a1.2.2.2.2]) λx0=>if decide (32<a3) then AI (bw n a0 a2 5) λx1=>AS (0,x1) else AI (nn a0) λx1=>AI (ar .sl (((x1.plus 2).plus 2).plus 0)) λ(x2:Sl)=>if decide (4096<=(↑x2.len:Int)) then AI (bw n a0 a2 7) λx3=>AS (0,x3) else AI (nn a0) λx3=>AI (ar .sl (((x3.plus 2).plus 2).plus 0)) λ(x4:Sl)=>AI (bh [li,.str,.bool,.sl,.sl] (aw x0)) λ(x5:Int×ζ×Bool×Sl×Sl)=>AI (app true x4 5 aH 1 [vi x5.1,.string x5.2.1,.bool x5.2.2.1,aS x5.2.2.2.1,aS x5.2.2.2.2]) λx6=>AI (nn a0) λx7=>AI (bE (((x7.plus 2).plus 2).plus 0) [aS x6]) λx8=>AI (nn a0) λx9=>AI (ar .sl (((x9.plus 2).plus 2).plus 0)) λ(eU:Sl)=>AS (i64.wrap ((↑eU.len:Int)-1),true)
abbrev Vi (n:Nat):cr:=⟨49,[rW,.agg [.int .i64,.str,.bool,.sl,.sl],aB,aB],[aB,kP],υ4 (dn n)⟩
def Ww (i:Nat):Option (List (Nat×η)):=Κ i 5 (Ω [0,1,2,3,4,5,6,7,8,9,10,11,12,13,14]) none
theorem vo (n:Nat):bz TZp (Vi n):=cQ Tryz.f49 (Zz n) (dr:=Ww) (hT:=.m1 (K63 n))
abbrev ZA (n:Nat):List cr:=Vi n::Zz n
theorem K64 (n:Nat):bA TZp (ZA n):=.cons (vo n) (K63 n)
def iE (n:Nat)(a0:θ)(a1 a2:Int):M (Int×Bool):=AI (nn a0) λx0=>AI (ar li (x0.plus 1)) λ(x1:Int)=>AI (nn a0) λx2=>AI (ar .str (x2.plus 0)) λ(x3:ζ)=>AI (ji x3 x1 (↑(ByteArray.size x3):Int)) λx4=>AI (strings_IndexByte n x4 101) λx5=>if decide (x5<0) then AI (nn a0) λx6=>AI (ar .str (x6.plus 0)) λ(x7:ζ)=>AI (bw n a0 (↑(ByteArray.size x7):Int) 4) λx8=>AS (0,x8) else AI (nn a0) λx6=>AI (ar .str (x6.plus 0)) λ(x7:ζ)=>AI (ji x7 (i64.wrap (x1+1)) (i64.wrap (x1+x5))) λx8=>AI (nn a0) λx9=>AI (bE (x9.plus 1) [vi (i64.wrap (i64.wrap (x1+x5)+1))]) λeU=>AI (jR n x8) λx11=>if !x11 then AI (bw n a0 x1 12) λx12=>AS (0,x12) else AI (dn n a0 (2,x8,false,jb,jb) x1 a1) λx12=>AS (x12.1,x12.2)
abbrev Vj (n:Nat):cr:=⟨24,[rW,aB,aB],[aB,kP],υ3 (iE n)⟩
theorem sI (n:Nat):bz TZp (Vj n):=cQ Tryz.f24 (ZA n) (hT:=.m1 (K64 n))
abbrev YQ (n:Nat):List cr:=Vj n::ZA n
theorem ZB (n:Nat):bA TZp (YQ n):=.cons (sI n) (K64 n)
def jT (G:θ->Int->M Unit)(n:Nat)(a0:θ)(a1:Int):M Unit:=AI (nn a0) λx0=>AI (nn a0) λx1=>AI (ar li (x0.plus 1)) λ(x2:Int)=>AI (ar .str (x1.plus 0)) λ(x3:ζ)=>if decide (x2<(↑(ByteArray.size x3):Int)) then AI (nn a0) λx4=>AI (nn a0) λx5=>AI (ar .str (x4.plus 0)) λ(x6:ζ)=>AI (ar li (x5.plus 1)) λ(x7:Int)=>AI (nO x6 x7) λx8=>if decide (48<=(↑x8.toNat:Int)) then AI (nn a0) λx9=>AI (nn a0) λeU=>AI (ar .str (x9.plus 0)) λ(x11:ζ)=>AI (ar li (eU.plus 1)) λ(x12:Int)=>AI (nO x11 x12) λx13=>if decide ((↑x13.toNat:Int)<=57) then AI (nn a0) λx14=>AI (ar li (x14.plus 1)) λ(x15:Int)=>AI (nn a0) λx16=>AI (bE (x16.plus 1) [vi (i64.wrap (x15+1))]) λx17=>G a0 a1 else AS () else AS () else AS ()
def eu:Nat->θ->Int->M Unit|0=>λ_ _=>AT|n+1=>jT (eu n) n
theorem rz (n:Nat):eu (n+1)=jT (eu n) n:=rfl
def iF (n:Nat)(a0:θ)(a1:Int):M (ζ×Bool):=AI (nn a0) λx0=>AI (ar li (x0.plus 1)) λ(x1:Int)=>AI (nn a0) λx2=>AI (bE (x2.plus 1) [vi (i64.wrap (x1+a1))]) λx3=>AI (nn a0) λx4=>AI (nn a0) λx5=>AI (nn a0) λx6=>AI (ar .str (x4.plus 0)) λ(x7:ζ)=>AI (ar li (x5.plus 1)) λ(x8:Int)=>AI (ar li (x6.plus 1)) λ(x9:Int)=>AI (ji x7 (i64.wrap (x8-a1)) x9) λeU=>AS (eU,true)
def ew (n:Nat)(a0:θ)(a1:ζ):M (ζ×Bool):=AI (dZ n a0) λx0=>if !x0 then AS ((ofBytes []),false) else AI (nn a0) λx1=>AI (nn a0) λx2=>AI (ar .str (x1.plus 0)) λ(x3:ζ)=>AI (ar li (x2.plus 1)) λ(x4:Int)=>AI (nO x3 x4) λx5=>if !decide ((↑x5.toNat:Int)=58) then AI (nn a0) λx6=>AI (ar li (x6.plus 1)) λ(x7:Int)=>AI (bw n a0 x7 4) λx8=>AS ((ofBytes []),x8) else AI (nn a0) λx6=>AI (ar li (x6.plus 1)) λ(x7:Int)=>AI (nn a0) λx8=>AI (bE (x8.plus 1) [vi (i64.wrap (x7+1))]) λx9=>AI (strconv_Atoi n a1) λeU=>AI (rM eU.2) λx11=>if !x11 then AI (nn a0) λx12=>AI (ar .str (x12.plus 0)) λ(x13:ζ)=>AI (bw n a0 (↑(ByteArray.size x13):Int) 4) λx14=>AS ((ofBytes []),x14) else AI (nn a0) λx12=>AI (nn a0) λx13=>AI (ar .str (x12.plus 0)) λ(x14:ζ)=>AI (ar li (x13.plus 1)) λ(x15:Int)=>if decide (i64.wrap ((↑(ByteArray.size x14):Int)-x15)<eU.1) then AI (nn a0) λx16=>AI (ar .str (x16.plus 0)) λ(x17:ζ)=>AI (bw n a0 (↑(ByteArray.size x17):Int) 4) λx18=>AS ((ofBytes []),x18) else iF n a0 eU.1
def iq (n:Nat)(a0:θ):M (ζ×Bool):=AI (nn a0) λx0=>AI (ar li (x0.plus 1)) λ(x1:Int)=>AI (eu n a0 x1) λx2=>AI (nn a0) λx3=>AI (nn a0) λx4=>AI (ar .str (x3.plus 0)) λ(x5:ζ)=>AI (ar li (x4.plus 1)) λ(x6:Int)=>AI (ji x5 x1 x6) λx7=>if pj x7 (ofBytes []) then AI (dZ n a0) λx8=>if x8 then AI (bw n a0 x1 4) λx9=>AS ((ofBytes []),x9) else AS ((ofBytes []),false) else if decide (1<(↑x7.size:Int)) then AI (nO x7 0) λx8=>if decide ((↑x8.toNat:Int)=48) then AI (bw n a0 x1 12) λx9=>AS ((ofBytes []),x9) else ew n a0 x7 else ew n a0 x7
abbrev Vk (n:Nat):cr:=⟨50,[rW],[yR,kP],λx=>iq n x⟩
abbrev GV:L1:=⟨[0,0,1,1],[(0,rW),(4,aB)],[],List.range' 12 41,0,λn=>υ2 (eu n)⟩
def Rc (i:Nat):Option (List (Nat×η)):=Κ i 2 (Ω [0,1,2,4,5,6,3,7,8,9,10,11,12,13,15,16,17,14,18,19,20,21,22,23,24,25,27,28,29,26,30,31,32,33]) (Κ i 4 (Ω [0,1,2,4,5,6,7,3,8,9,10]) (Κ i 11 (Ω [0,1,2,4,5,6,3,7,8,9,10]) (Κ i 15 (Ω [0,1,2,3,4,5,6,9,10,11,7,8,12,13,14,15]) (Κ i 18 (Ω [0,1,2,4,5,6,8,10,11,12,3,7,9,13,14,15,16]) none))))
abbrev Wx (n:Nat):List (jd (ζ×Bool)):=[⟨[0,1,1,1,1,0,0,1,1,1,1],[.code [1,1,1,1,1,0,0,1,1,1,1],.aD 2,.code [1,1,1,1,1]],[(0,rW),(5,yR)],υ2 (ew n)⟩, ⟨[0,1,1,1,1,1,1,1,1],[.code [1,1,1,1,1,1,1,1,1]],[(0,rW),(6,aB)],υ2 (iF n)⟩]
theorem Ox (n:Nat):kE TZp Tryz.f50 (GV.e n) GV.ws:=L1.ok Tryz.f50 GV n YQ (dr:=Rc) (hT:=λm _=>.m1 (ZB m))
theorem vp (n:Nat):bz TZp (Vk n):=cQ Tryz.f50 (YQ n) (ll:=[GV.e n]) (dr:=Rc) (js:=Wx n) (hT:=⟨.nil,ZB n,.nil,(.cc (Ox n) .nil),(.cc (.cc .nil))⟩)
abbrev ZC (n:Nat):List cr:=Vk n::YQ n
theorem K66 (n:Nat):bA TZp (ZC n):=.cons (vp n) (ZB n)
def kY (n:Nat)(a0:θ)(a1 a2:Int):M (Int×Bool):=AI (nn a0) λx0=>AI (ar li (x0.plus 1)) λ(x1:Int)=>AI (iq n a0) λx2=>if !x2.2 then AS (0,false) else AI (fQ n x2.1) λx3=>if !decide (x3.2=0) then AI (dn n a0 (6,x2.1,false,jb,jb) x1 a1) λx4=>AS (x4.1,x4.2) else AI (dn n a0 (5,x2.1,false,jb,jb) x1 a1) λx4=>AS (x4.1,x4.2)
abbrev Vl (n:Nat):cr:=⟨27,[rW,aB,aB],[aB,kP],υ3 (kY n)⟩
theorem vU (n:Nat):bz TZp (Vl n):=cQ Tryz.f27 (ZC n) (hT:=.m1 (K66 n))
abbrev C67 (n:Nat):List cr:=Vl n::ZC n
theorem K67 (n:Nat):bA TZp (C67 n):=.cons (vU n) (K66 n)
structure ak where
 cT:θ->(Int×Int×Int×Int×Int×Int×Int×Bool×Bool)->Int->M (Int×Bool)
 bV:θ->Int->Int->Int->Bool->Int->M Bool
 fM:θ->Int->Int->M (Int×Bool)
 bx:θ->Int->Int->Int->Bool->ζ->Int->M (Bool⊕(Int×Bool))
 dJ:θ->Int->Int->M (Int×Bool)
def bQ (G:ak)(n:Nat)(a0:θ)(a1 a2:Int):M (Int×Bool):=AI (nn a0) λx0=>AI (nn a0) λx1=>AI (nn a0) λx2=>AI (ar .sl ((x0.plus 2).plus 4)) λ(x3:Sl)=>AI (ar .sl ((x1.plus 2).plus 4)) λ(x4:Sl)=>AI (ar li (x2.plus 1)) λ(x5:Int)=>AI (ao x3 a1 9) λx6=>AI (bE (x6.plus 0) [vi a2]) λx7=>AI (ao x4 a1 9) λx8=>AI (bE (x8.plus 4) [vi x5]) λx9=>AS (a2,true)
def kZ (G:ak)(n:Nat)(a0:θ)(a1:Int×Int×Int×Int×Int×Int×Int×Bool×Bool)(a2:Int):M (Int×Bool):=AI (aJ none fC [vi a1.1,vi a1.2.1,vi a1.2.2.1,vi a1.2.2.2.1,vi a1.2.2.2.2.1,vi a1.2.2.2.2.2.1,vi a1.2.2.2.2.2.2.1,.bool a1.2.2.2.2.2.2.2.1,.bool a1.2.2.2.2.2.2.2.2]) λx0=>AI (dZ n a0) λx1=>if !x1 then AS (0,false) else AI (nn a0) λx2=>AI (ar li (x2.plus 1)) λ(x3:Int)=>AI (bE ((aw x0).plus 3) [vi x3]) λx4=>AI (bE ((aw x0).plus 8) [.bool true]) λx5=>AI (nn a0) λx6=>AI (ar .sl ((x6.plus 2).plus 4)) λ(x7:Sl)=>AI (nn a0) λx8=>AI (ar .sl ((x8.plus 2).plus 4)) λ(x9:Sl)=>AI (bh [li,li,li,li,li,li,li,.bool,.bool] (aw x0)) λ(eU:Int×Int×Int×Int×Int×Int×Int×Bool×Bool)=>AI (app true x9 9 fC 1 [vi eU.1,vi eU.2.1,vi eU.2.2.1,vi eU.2.2.2.1,vi eU.2.2.2.2.1,vi eU.2.2.2.2.2.1,vi eU.2.2.2.2.2.2.1,.bool eU.2.2.2.2.2.2.2.1,.bool eU.2.2.2.2.2.2.2.2]) λx11=>AI (nn a0) λx12=>AI (bE ((x12.plus 2).plus 4) [aS x11]) λx13=>AI (nn a0) λx14=>AI (nn a0) λx15=>AI (ar .str (x14.plus 0)) λ(x16:ζ)=>AI (ar li (x15.plus 1)) λ(x17:Int)=>AI (nO x16 x17) λx18=>if decide ((↑x18.toNat:Int)=105) then AI (iE n a0 a2 (↑x7.len:Int)) λx19=>if !x19.2 then AS (0,false) else AI (nn a0) λx20=>AI (ar li (x20.plus 8)) λ(x21:Int)=>if !decide (x21=0) then AS (0,false) else bQ G n a0 (↑x7.len:Int) x19.1 else if decide ((↑x18.toNat:Int)=108) then AI (G.fM a0 a2 (↑x7.len:Int)) λx19=>if !x19.2 then AS (0,false) else AI (nn a0) λx20=>AI (ar li (x20.plus 8)) λ(x21:Int)=>if !decide (x21=0) then AS (0,false) else bQ G n a0 (↑x7.len:Int) x19.1 else if decide ((↑x18.toNat:Int)=100) then AI (G.dJ a0 a2 (↑x7.len:Int)) λx19=>if !x19.2 then AS (0,false) else AI (nn a0) λx20=>AI (ar li (x20.plus 8)) λ(x21:Int)=>if !decide (x21=0) then AS (0,false) else bQ G n a0 (↑x7.len:Int) x19.1 else AI (kY n a0 a2 (↑x7.len:Int)) λx19=>if !x19.2 then AS (0,false) else AI (nn a0) λx20=>AI (ar li (x20.plus 8)) λ(x21:Int)=>if !decide (x21=0) then AS (0,false) else bQ G n a0 (↑x7.len:Int) x19.1
def iG (G:ak)(n:Nat)(a0:θ)(a1 a2 a3:Int)(a4:Bool)(a5:Int):M Bool:=AI (G.cT a0 (0,a2,a5,0,0,0,0,false,false) (i64.wrap (a1+1))) λx0=>if x0.2 then AI (nn a0) λx1=>AI (nn a0) λx2=>AI (ar .sl (((x1.plus 2).plus 2).plus 0)) λ(x3:Sl)=>AI (ar .sl (((x2.plus 2).plus 2).plus 0)) λ(x4:Sl)=>AI (ao x4 a3 5) λx5=>AI (ar .sl (x5.plus 4)) λ(x6:Sl)=>AI (app true x6 1 ay 1 [vi x0.1]) λx7=>AI (ao x3 a3 5) λx8=>AI (bE (x8.plus 4) [aS x7]) λx9=>G.bV a0 a1 a2 a3 x0.2 (i64.wrap (a5+1)) else G.bV a0 a1 a2 a3 x0.2 (i64.wrap (a5+1))
def eN (G:ak)(n:Nat)(a0:θ)(a1 a2 a3:Int)(a4:Bool)(a5:Int):M Bool:=if a4 then AI (dZ n a0) λx0=>if x0 then AI (nn a0) λx1=>AI (nn a0) λx2=>AI (ar .str (x1.plus 0)) λ(x3:ζ)=>AI (ar li (x2.plus 1)) λ(x4:Int)=>AI (nO x3 x4) λx5=>if !decide ((↑x5.toNat:Int)=101) then iG G n a0 a1 a2 a3 a4 a5 else AS a4 else AS a4 else AS a4
def lE (G:ak)(n:Nat)(a0:θ)(a1 a2:Int):M (Int×Bool):=AI (nn a0) λx0=>AI (ar li (x0.plus 1)) λ(x1:Int)=>AI (dn n a0 (9,(ofBytes []),false,jb,jb) x1 a1) λx2=>AI (nn a0) λx3=>AI (ar li (x3.plus 1)) λ(x4:Int)=>AI (nn a0) λx5=>AI (bE (x5.plus 1) [vi (i64.wrap (x4+1))]) λx6=>AI (G.bV a0 a1 a2 x2.1 x2.2 0) λx7=>AI (nn a0) λx8=>AI (ar li (x8.plus 1)) λ(x9:Int)=>AI (nn a0) λeU=>AI (bE (eU.plus 1) [vi (i64.wrap (x9+1))]) λx11=>AS (x2.1,x7)
def bW (G:ak)(n:Nat)(a0:θ)(a1 a2 a3:Int)(a4:Bool)(a5:ζ)(a6 a7:Int)(a8:ζ)(a9:Int):M (Bool⊕(Int×Bool)):=AI (nn a0) λx0=>AI (ar li (x0.plus 1)) λ(x1:Int)=>AI (G.cT a0 (0,a2,a6,0,0,a7,x1,false,false) (i64.wrap (a1+1))) λx2=>if x2.2 then AI (nn a0) λx3=>AI (ar .sl (((x3.plus 2).plus 2).plus 0)) λ(x4:Sl)=>AI (ao x4 a3 5) λx5=>AI (nn (some x5)) λx6=>AI (nn (some x5)) λx7=>AI (ar .sl (x6.plus 3)) λ(x8:Sl)=>AI (ar .sl (x7.plus 4)) λ(x9:Sl)=>AI (app true x8 1 ay 1 [vi a9]) λeU=>AI (app true x9 1 ay 1 [vi x2.1]) λx11=>AI (nn (some x5)) λx12=>AI (bE (x12.plus 3) [aS eU]) λx13=>AI (nn (some x5)) λx14=>AI (bE (x14.plus 4) [aS x11]) λx15=>G.bx a0 a1 a2 a3 x2.2 a8 (i64.wrap (a6+1)) else G.bx a0 a1 a2 a3 x2.2 a8 (i64.wrap (a6+1))
def ft (G:ak)(n:Nat)(a0:θ)(a1 a2 a3:Int)(a4:Bool)(a5:ζ)(a6:Int):M (Bool⊕(Int×Bool)):=AI (nn a0) λx0=>AI (ar li (x0.plus 1)) λ(x1:Int)=>AI (iq n a0) λx2=>if !x2.2 then AS (Sum.inr (0,false)) else AI (dn n a0 (5,x2.1,false,jb,jb) x1 (i64.wrap (a1+1))) λx3=>if !x3.2 then AS (Sum.inr (0,false)) else AI (fQ n x2.1) λx4=>if !decide (x4.2=0) then AI (bw n a0 x1 11) λx5=>AS (Sum.inr (0,x5)) else if decide (0<a6) then if zM x2.1 a5||pj x2.1 a5 then AI (bw n a0 x1 16) λx5=>AS (Sum.inr (0,x5)) else bW G n a0 a1 a2 a3 a4 a5 a6 x1 x2.1 x3.1 else bW G n a0 a1 a2 a3 a4 a5 a6 x1 x2.1 x3.1
def dz (G:ak)(n:Nat)(a0:θ)(a1 a2 a3:Int)(a4:Bool)(a5:ζ)(a6:Int):M (Bool⊕(Int×Bool)):=if a4 then AI (dZ n a0) λx0=>if x0 then AI (nn a0) λx1=>AI (nn a0) λx2=>AI (ar .str (x1.plus 0)) λ(x3:ζ)=>AI (ar li (x2.plus 1)) λ(x4:Int)=>AI (nO x3 x4) λx5=>if !decide ((↑x5.toNat:Int)=101) then ft G n a0 a1 a2 a3 a4 a5 a6 else AS (Sum.inl a4) else AS (Sum.inl a4) else AS (Sum.inl a4)
def iH (G:ak)(n:Nat)(a0:θ)(a1 a2:Int):M (Int×Bool):=AI (nn a0) λx0=>AI (ar li (x0.plus 1)) λ(x1:Int)=>AI (dn n a0 (10,(ofBytes []),false,jb,jb) x1 a1) λx2=>AI (nn a0) λx3=>AI (ar li (x3.plus 1)) λ(x4:Int)=>AI (nn a0) λx5=>AI (bE (x5.plus 1) [vi (i64.wrap (x4+1))]) λx6=>AI (G.bx a0 a1 a2 x2.1 x2.2 (ofBytes []) 0) (cn (λx7=>AI (nn a0) λx8=>AI (ar li (x8.plus 1)) λ(x9:Int)=>AI (nn a0) λeU=>AI (bE (eU.plus 1) [vi (i64.wrap (x9+1))]) λx11=>AS (x2.1,x7)) (λx7=>AS (x7.1,x7.2)))
def ak.at:Nat->ak|0=>⟨λ_ _ _=>AT,λ_ _ _ _ _ _=>AT,λ_ _ _=>AT,λ_ _ _ _ _ _ _=>AT,λ_ _ _=>AT⟩|n+1=>⟨kZ (ak.at n) n,eN (ak.at n) n,lE (ak.at n) n,dz (ak.at n) n,iH (ak.at n) n⟩
def cT (n:Nat):=(ak.at n).cT
theorem sJ (n:Nat):cT (n+1)=kZ (ak.at n) n:=rfl
def bV (n:Nat):=(ak.at n).bV
theorem iI (n:Nat):bV (n+1)=eN (ak.at n) n:=rfl
def fM (n:Nat):=(ak.at n).fM
theorem tU (n:Nat):fM (n+1)=lE (ak.at n) n:=rfl
def bx (n:Nat):=(ak.at n).bx
theorem fu (n:Nat):bx (n+1)=dz (ak.at n) n:=rfl
def dJ (n:Nat):=(ak.at n).dJ
theorem pQ (n:Nat):dJ (n+1)=iH (ak.at n) n:=rfl
def ur (n:Nat):=bQ (ak.at n) n
def sK (n:Nat):=iG (ak.at n) n
def pg (n:Nat):=ft (ak.at n) n
def ph (n:Nat):=bW (ak.at n) n
abbrev Rd (n:Nat):cr:=⟨11,[rW,.agg [.int .i64,.int .i64,.int .i64,.int .i64,.int .i64,.int .i64,.int .i64,.bool,.bool],aB],[aB,kP],υ3 (cT n)⟩
abbrev Re (n:Nat):cr:=⟨25,[rW,aB,aB],[aB,kP],υ3 (fM n)⟩
abbrev GW:L1:=⟨[0,1,0,1,1,1],[(0,rW),(1,aB),(2,aB),(8,aB),(9,kP),(10,aB)],[(9,kP)],[9,10,11]++List.range' 30 52,0,λn=>υ6 (bV n)⟩
abbrev Rf (n:Nat):cr:=⟨26,[rW,aB,aB],[aB,kP],υ3 (dJ n)⟩
abbrev GX:L2:=⟨[0,1,0,1,1,1,1],[(0,rW),(1,aB),(2,aB),(8,aB),(9,kP),(10,yR),(11,aB)],[(9,kP)],[(6,aB),(7,kP)],[6,7]++List.range' 9 12++List.range' 39 107,0,.ret,λn=>υ7 (bx n)⟩
abbrev Vm (n:Nat):List cr:=Rd n::Re n::Rf n::C67 n
def Wy (i:Nat):Option (List (Nat×η)):=Κ i 5 (Ω [0,1,2,3,4,5,6,7,8,9,10,11,12]) (Κ i 7 (Ω [0,1,2,4,5,6,3,7,8]) (Κ i 18 (Ω [0,1,2,3,5,6,7,8,9,11,12,13,14,15,4,10,16,17,18,19,20,21,22]) none))
abbrev Wz (n:Nat):List (jd (Int×Bool)):=[⟨[0,1,1,1,1,1,1,1,1,1],[.code [1,1,1,1,1,1,1,1,1,1]],[(0,rW),(8,aB),(10,aB)],υ3 (ur n)⟩]
def Rh (i:Nat):Option (List (Nat×η)):=Κ i 4 (Ω [0,1,2,3,4,5,6,7,8,10,11,12,9,13,14,15,16]) (Κ i 9 (Ω [0,1,2,3,4,6,7,8,9,10,11,13,17,18,5,12,14,15,16,19,20,21,22]) none)
abbrev Oy (n:Nat):List (jd Bool):=[⟨[0,0,0,1,0,0,1,0,1,1,1],[.code [1,0,0,1,0,0,1,0,1,1,1],.aD 1,.code [1,1,0,0,1,0,1,1,1]],[(0,rW),(1,aB),(2,aB),(8,aB),(9,kP),(10,aB)],υ6 (sK n)⟩]
def Ri (i:Nat):Option (List (Nat×η)):=Κ i 5 (Ω [0,1,2,3,4,5,6,7,8,10,11,12,9,13,14,15,16]) (Κ i 24 (Ω [0,1,2,3,4,6,7,9,10,11,13,14,5,12,8,15,16,17,18,19,20,21]) none)
abbrev Oz (n:Nat):List (jd (Bool⊕(Int×Bool))):=[⟨[0,0,0,1,0,0,1,0,1,1,1,1],[.code [1,0,0,1,0,0,1,0,1,1,1,1],.aD 1,.code [1,1,0,0,1,0,1,1,1,1]],[(0,rW),(1,aB),(2,aB),(8,aB),(9,kP),(10,yR),(11,aB)],υ7 (pg n)⟩, ⟨[0,1,1,1,1,1,1,1,0,0,1,0,0,1,0,1,1,1,1],[.code [1,1,1,1,1,1,1,1,0,0,1,0,0,1,0,1,1,1,1],.aD 1,.code [1,1,0,0,1,0,1,1,1,1]],[(0,rW),(1,aB),(2,aB),(8,aB),(9,kP),(10,yR),(11,aB),(12,aB),(13,yR),(15,aB)],υ10 (ph n)⟩]
def dN (n:Nat):Prop:=bz TZp (Rd n)/\bz TZp (Re n)/\bz TZp (Rf n)
theorem Ex (n:Nat)(H:dN n):bA TZp (Vm n):=.cons H.1 (.cons H.2.1 (.cons H.2.2 (K67 n)))
theorem qL (n:Nat)(H:∀m,m<n+1->dN m):bz TZp (Rd (n+1)):=cQ Tryz.f11 (Vm n) (dr:=Wy) (js:=Wz n) (hT:=⟨.nil,Ex n (H n (aad n)),.nil,.nil,(.cc .nil)⟩)
theorem OA (n:Nat)(H:∀m,m<n->dN m):kE TZp Tryz.f25 (GW.e n) GW.ws:=L1.ok Tryz.f25 GW n Vm (dr:=Rh) (jt:=Oy) (hT:=λm hm=>⟨.nil,Ex m (H m hm),.nil,.nil,(.cc .nil)⟩)
theorem rA (n:Nat)(H:∀m,m<n+1->dN m):bz TZp (Re (n+1)):=cQ Tryz.f25 (Vm n) (ll:=[GW.e n]) (dr:=Rh) (hT:=⟨.nil,Ex n (H n (aad n)),.nil,(.cc (OA n (λk hk=>H k (aal hk))) .nil),.nil⟩)
theorem OB (n:Nat)(H:∀m,m<n->dN m):kE TZp Tryz.f26 (GX.e n) GX.ws:=L2.ok Tryz.f26 GX n Vm (dr:=Ri) (jt:=Oz) (hT:=λm hm=>⟨.nil,Ex m (H m hm),.nil,.nil,(.cc (.cc .nil))⟩)
theorem nT (n:Nat)(H:∀m,m<n+1->dN m):bz TZp (Rf (n+1)):=cQ Tryz.f26 (Vm n) (ll:=[GX.e n]) (dr:=Ri) (hT:=⟨.nil,Ex n (H n (aad n)),.nil,(.cc (OB n (λk hk=>H k (aal hk))) .nil),.nil⟩)
theorem sk:∀n m,m<n->dN m:=by
 intro n
 induction n with
 |zero=>intro m hm;exact absurd hm (abc m)
 |succ n ih=>
  intro m hm;cases m with
  |zero=>exact⟨eg (fn:=Tryz.f11) (by kernel_rfl) (by kernel_rfl) (by kernel_rfl) (λ_=>rfl),eg (fn:=Tryz.f25) (by kernel_rfl) (by kernel_rfl) (by kernel_rfl) (λ_=>rfl),eg (fn:=Tryz.f26) (by kernel_rfl) (by kernel_rfl) (by kernel_rfl) (λ_=>rfl)⟩
  |succ k=>exact⟨qL k λm hm=>ih m (by omega),rA k λm hm=>ih m (by omega),nT k λm hm=>ih m (by omega)⟩
theorem K68 (n:Nat):bA TZp (Vm n):=Ex n (sk (n+1) n (aad n))
def iO (n:Nat)(a0:Addr)(a1:θ):M ((Int×ζ×Sl×Int×Sl×Sl)×Int×Int):=AI (nn a1) λx0=>AI (ar li (x0.plus 8)) λ(x1:Int)=>if !decide (x1=0) then AI (nn a1) λx2=>AI (nn a1) λx3=>AI (ar li (x2.plus 9)) λ(x4:Int)=>AI (ar li (x3.plus 8)) λ(x5:Int)=>AI (kO [some (x2.plus 9),some (x3.plus 8)] (bE a0 [vi 0,.string (ofBytes []),aZ,vi 0,aZ,aZ])) λx6=>AI (bh [li,.str,.sl,li,.sl,.sl] a0) λ(x7:Int×ζ×Sl×Int×Sl×Sl)=>AS ((x7.1,x7.2.1,x7.2.2.1,x7.2.2.2.1,x7.2.2.2.2.1,x7.2.2.2.2.2),x4,x5) else AI (nn a1) λx2=>AI (bh [li,.str,.sl,li,.sl,.sl] (x2.plus 2)) λ(x3:Int×ζ×Sl×Int×Sl×Sl)=>AI (bE a0 [vi x3.1,.string x3.2.1,aS x3.2.2.1,vi x3.2.2.2.1,aS x3.2.2.2.2.1,aS x3.2.2.2.2.2]) λx4=>AI (bh [li,.str,.sl,li,.sl,.sl] a0) λ(x5:Int×ζ×Sl×Int×Sl×Sl)=>AS ((x5.1,x5.2.1,x5.2.2.1,x5.2.2.2.1,x5.2.2.2.2.1,x5.2.2.2.2.2),0,0)
def mV (n:Nat)(a0:ζ):M ((Int×ζ×Sl×Int×Sl×Sl)×Int×Int):=AI (aJ none lr [vi 0,.string (ofBytes []),aZ,vi 0,aZ,aZ]) λx0=>if decide (65536<(↑a0.size:Int)) then AI (bE (aw x0) [vi 0,.string (ofBytes []),aZ,vi 0,aZ,aZ]) λx1=>AI (bh [li,.str,.sl,li,.sl,.sl] (aw x0)) λ(x2:Int×ζ×Sl×Int×Sl×Sl)=>AS ((x2.1,x2.2.1,x2.2.2.1,x2.2.2.2.1,x2.2.2.2.2.1,x2.2.2.2.2.2),0,6) else AI (aJ none bu [.string a0,vi 0,vi 5,.string a0,aZ,vi 0,aZ,aZ,vi 0,vi 0]) λx1=>AI (cT n (some (aw x1)) (0,-1,0,0,0,0,0,false,false) 0) λx2=>if x2.2 then AI (nn (some (aw x1))) λx3=>AI (ar li (x3.plus 1)) λ(x4:Int)=>if decide (x4<(↑a0.size:Int)) then AI (nn (some (aw x1))) λx5=>AI (ar li (x5.plus 1)) λ(x6:Int)=>AI (bw n (some (aw x1)) x6 4) λx7=>iO n (aw x0) (some (aw x1)) else iO n (aw x0) (some (aw x1)) else iO n (aw x0) (some (aw x1))
abbrev ZD (n:Nat):cr:=⟨5,[yR],[.agg [.int .i64,.str,.sl,.int .i64,.sl,.sl],aB,aB],λx=>mV n x⟩
def X9 (i:Nat):Option (List (Nat×η)):=Κ i 8 (Ω [0,1,2,3,5,6,7,4,8]++[(9,[4,8])]++Ω [10,11]) none
abbrev Ya (n:Nat):List (jd ((Int×ζ×Sl×Int×Sl×Sl)×Int×Int)):=[⟨[0,0,1,1,1,1],[.code [1,0,1,1,1,1],.code [1,1,1,1,1]],[(2,aV),(5,rW)],υ2 (iO n)⟩]
theorem Aw (n:Nat):bz TZp (ZD n):=cQ Tryz.f5 (Vm n) (dr:=X9) (js:=Ya n) (hT:=⟨.nil,K68 n,.nil,.nil,(.cc .nil)⟩)
end Go.Sh
