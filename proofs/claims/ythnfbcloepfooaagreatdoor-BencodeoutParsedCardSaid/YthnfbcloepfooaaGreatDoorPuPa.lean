
import Derived.Test.YthnfbcloepfooaaGreatDoorPah
import Derived.Test.YthnfbcloepfooaaGreatDoorAgoK
set_option linter.all false
set_option maxRecDepth 1000000
set_option maxHeartbeats 0
namespace Go.Sh
open Go Go.Ago Go.Proofs
noncomputable def Xf (m:M Bool):Bool:=match m hZ with
 |some (x,_)=>x
 |none=>false
theorem O5 {m:M Bool}(h:Xf m=true):∃h1,m hZ=some (true,h1):=by
 unfold Xf at h;cases e:m hZ with
 |none=>rw[e] at h;cases h
 |some p=>obtain⟨x,h1⟩:=p;rw[e] at h;simp only at h;subst h;exact⟨h1,rfl⟩
def KS (n:Nat):M Bool:=
 AI (bq n 2 (ofBytes [49])) λx0=>
 AI (bq n 2 (ofBytes [45,50])) λx1=>
 AI (aJ none aj [aS x0.1,vi x0.2,aS x1.1,vi x1.2]) λx2=>
 AI (sd n { a:=some (aw x2),len:=2,cap:=3 }) λx3=>
 AI (aJ none aj [aZ,vi 0]) λx4=>
 AI (bE (aw x4) [aS x3.1.1,vi x3.1.2]) λx5=>
 AI (dT 14) λx6=>
 AI (bh [.sl,li] (aw x4)) λ(x7:Sl×Int)=>
 AI (kO [some (aw x4),none] (bq n 5 (ofBytes [98]))) λx9=>
 AI (kO [some (aw x4),none] (bq n 5 (ofBytes [97]))) λeU=>
 AI (kO [some (aw x4),none] (bq n 5 (ofBytes []))) λx11=>
 AI (aJ (some (x6+6)) re [aS x9.1,vi x9.2,aS x7.1,vi x7.2,aS eU.1,vi eU.2,aS x11.1,vi x11.2]) λx12=>
 AI (kO [none] (uq n false { a:=some (aw x12),len:=2,cap:=3 })) λx13=>
 AI (aJ (some (x6+11)) aj [aZ,vi 0]) λx8=>
 AI (bE (aw x8) [aS x13.1.1,vi x13.1.2]) λx14=>
 AI (bh [.sl,li] (aw x8)) λ(x15:Sl×Int)=>
 AI (dX n (x15.1,x15.2)) λx16=>
 AI (bq n 6 (ofBytes [255])) λx17=>
 AI (nD n (x17.1,x17.2)) λx18=>
 AI (bq n 6 (ofBytes [97,98])) λx19=>
 AI (dX n (x19.1,x19.2)) λx20=>
 if decide (x3.2=0) then
  if decide (x13.2=0) then
   if pj x16.1 (ofBytes [100,49,58,97,48,58,49,58,98,108,105,49,101,105,45,50,101,101,101]) then
    if decide (x16.2=0) then
     if pj x18.1 (ofBytes [49,58,255]) then
      if decide (x18.2=0) then
       AS (decide (x20.2=11))
      else
       AS false
     else
      AS false
    else
     AS false
   else
    AS false
  else
   AS false
 else
  AS false
theorem O8:Xf (KS 3000)=true:=by kernel_rfl
theorem Yn:WF hZ:=⟨λ_ _=>rfl,λ_ _=>rfl,λ_ _ _ _ _ h=>(by cases h),λ_ _=>rfl⟩
theorem Sn {h h1:af}{k j x:Nat}{e e':κ}{cs cs':δ}(O:Ok k h)(hj:j≠k)(hx:aJ (some j) e' cs' h=some (x,h1)):aJ (some j) e' cs' (h.bt k h.next e cs)=some (x,h1.bt k h1.next e cs)/\Ok k h1:=by
 have put:∀{h:af},h.bt k h.next e cs=ins k (some (.cells cs (k+1) 0 e)) true cs.length h:=λ{h}=>by
  refine oQ rfl (λj=>?_) rfl (λg=>?_) λj=>?_<;>simp only[af.bt,ins,ly,aQ]
 unfold aJ at hx;split at hx
 .rename_i hs;simp only at hx;split at hx
  .rename_i hc;cases hx;refine⟨?_,O.bt hj (aai _)⟩;rw[put,put,<-wX hj,Mw hs]
   .rfl
   .simp only[ins];rw[By hj,By hj];exact hc
  .cases hx
 .cases hx
theorem Xg {h h1:af}{k x:Nat}{e:κ}{cs:δ}(O:Ok k h)(hs:cs.all fi=true)(hx:aJ (some k) e cs h=some (x,h1)):x=k/\h1=h.bt k h.next e cs:=by
 rw[Mw hs ⟨O.used,O.lt,by rw[O.get];rfl⟩] at hx;cases hx;exact⟨rfl,rfl⟩
theorem So {n:Nat}{h:af}(e:KS n hZ=some (true,h)):nE n hZ=some (true,h):=by
 unfold KS at e;obtain⟨x0,h0,e0,e⟩:=tb e;obtain⟨x1,h1,e1,e⟩:=tb e;obtain⟨x2,h2,e2,e⟩:=tb e;obtain⟨x3,h3,e3,e⟩:=tb e;obtain⟨x4,h4,e4,e⟩:=tb e;obtain⟨x5,h5,e5,e⟩:=tb e;have w0:=((fL 0 _ _ _).wf _ _ _ Yn e0).1;have w1:=((fL 0 _ _ _).wf _ _ _ w0 e1).1;have w2:=((Mn.aJ (b:=0)).wf _ _ _ w1 e2).1;have w3:=((D8 0 _ _).wf _ _ _ w2 e3).1;have w4:=((Mn.aJ (b:=0)).wf _ _ _ w3 e4).1;have w5:=((Mn.bE (b:=0)).wf _ _ _ w4 e5).1;obtain⟨x6,h6,e6,e⟩:=tb e;have e6':=e6;cases e6;have O6:Ok (h5.next+11) { h5 with next:=h5.next+14 }:=Ok.of w5 (by decide)
 obtain⟨x7,h7,e7,e⟩:=tb e;have O7:=((Mn.bh (b:=h5.next+12)).mn _ none false 0 _ _ _ (aad _) (λ_ _ _ _ hx=>by cases hx) O6 e7).2
 obtain⟨x9,h9,e9,e⟩:=tb e;obtain⟨f9,O9⟩:=Mn.late (e:=aj) (cs:=[aZ,vi 0]) (fL _ _ _ _) O7 e9;obtain⟨eU,h10,e10,e⟩:=tb e;obtain⟨f10,O10⟩:=Mn.late (e:=aj) (cs:=[aZ,vi 0]) (fL _ _ _ _) O9 e10;obtain⟨x11,h11,e11,e⟩:=tb e;obtain⟨f11,O11⟩:=Mn.late (e:=aj) (cs:=[aZ,vi 0]) (fL _ _ _ _) O10 e11;obtain⟨x12,h12,e12,e⟩:=tb e;obtain⟨f12,O12⟩:=Sn (e:=aj) (cs:=[aZ,vi 0]) O11 (by omega) e12;obtain⟨x13,h13,e13,e⟩:=tb e;obtain⟨f13,O13⟩:=Mn.late (e:=aj) (cs:=[aZ,vi 0]) (Hg _ _ _ _) O12 e13;obtain⟨x8,h8,e8,e⟩:=tb e;obtain⟨rfl,rfl⟩:=Xg O13 rfl e8;unfold nE;exact tc e0 (tc e1 (tc e2 (tc e3 (tc e4 (tc e5 (tc e6' (tc e7 (tc (Mw rfl ⟨O7.used,O7.lt,by rw[O7.get];rfl⟩) (tc f9 (tc f10 (tc f11 (tc f12 (tc f13 e)))))))))))))
def AM (_:Nat):M Bool:=AS true
theorem Pb (n:Nat):bz Tryz.prog ⟨4,[],[kP],λ_=>AM n⟩:=
 let ⟨_,hm⟩:=O5 O8
 Te (vT 3000) (λargs w=>lM (fn:=Tryz.f4) (by kernel_rfl) (by kernel_rfl) (by kernel_rfl) args w) (So hm)
end Go.Sh
