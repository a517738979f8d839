
import Derived.Test.YtajnpfnomgjlaaaGreatDoorPaj
import Derived.Test.YtajnpfnomgjlaaaGreatDoorAgoK
set_option linter.all false
set_option maxRecDepth 1000000
set_option maxHeartbeats 0
namespace Go.Sh
open Go Go.Ago Go.Proofs
noncomputable def agp (m:M Bool):Bool:=match m hZ with
 |some (x,_)=>x
 |none=>false
theorem UU {m}(h:agp m=true):∃h1,m hZ=some (true,h1):=by
 unfold agp at h;cases e:m hZ with
 |none=>rw[e] at h;cases h
 |some p=>obtain⟨x,h1⟩:=p;rw[e] at h;simp at h;subst h;exact⟨h1,rfl⟩
def Qk (n:Nat):M Bool:=
 sh (aZ n 2 (ofBytes [49])) λx0=>
 sh (aZ n 2 (ofBytes [45,50])) λx1=>
 sh (aF none aj [aI x0.1,vi x0.2,aI x1.1,vi x1.2]) λx2=>
 sh (wa n { a:=some (al x2),len:=2,cap:=3 }) λx3=>
 sh (aF none aj [aO,vi 0]) λx4=>
 sh (bh (al x4) [aI x3.1.1,vi x3.1.2]) λx5=>
 sh (dz 14) λx6=>
 sh (aE [.sl,li] (al x4)) λ(x7:Sl×Int)=>
 sh (k8 [some (al x4),none] (aZ n 5 (ofBytes [98]))) λx9=>
 sh (k8 [some (al x4),none] (aZ n 5 (ofBytes [97]))) λfD=>
 sh (k8 [some (al x4),none] (aZ n 5 (ofBytes []))) λx11=>
 sh (aF (some (x6+6)) u6 [aI x9.1,vi x9.2,aI x7.1,vi x7.2,aI fD.1,vi fD.2,aI x11.1,vi x11.2]) λx12=>
 sh (k8 [none] (xx n false { a:=some (al x12),len:=2,cap:=3 })) λx13=>
 sh (aF (some (x6+11)) aj [aO,vi 0]) λx8=>
 sh (bh (al x8) [aI x13.1.1,vi x13.1.2]) λjj=>
 sh (aE [.sl,li] (al x8)) λ(x15:Sl×Int)=>
 sh (eD n (x15.1,x15.2)) λrz=>
 sh (aZ n 6 (ofBytes [255])) λx17=>
 sh (qY n (x17.1,x17.2)) λvB=>
 sh (aZ n 6 (ofBytes [97,98])) λx19=>
 sh (eD n (x19.1,x19.2)) λx20=>
 if decide (x3.2=0) then
  if decide (x13.2=0) then
   if qE rz.1 (ofBytes [100,49,58,97,48,58,49,58,98,108,105,49,101,105,45,50,101,101,101]) then
    if decide (rz.2=0) then
     if qE vB.1 (ofBytes [49,58,255]) then
      if decide (vB.2=0) then
       AI (decide (x20.2=11))
      else
       AI false
     else
      AI false
    else
     AI false
   else
    AI false
  else
   AI false
 else
  AI false
theorem UW:agp (Qk 3000)=true:=by kernel_rfl
theorem ahU:WF hZ:=⟨λ_ _=>rfl,λ_ _=>rfl,λ_ _ _ _ _ h=>(by cases h),λ_ _=>rfl⟩
theorem Zv {h h1 k j x e e' cs cs'}(O:Ok k h)(hj:j≠k)(hx:aF (some j) e' cs' h=some (x,h1)):aF (some j) e' cs' (h.aX k h.next e cs)=some (x,h1.aX k h1.next e cs)/\Ok k h1:=by
 have put:∀{h:ai},h.aX k h.next e cs=ins k (some (.cells cs (k+1) 0 e)) true cs.length h:=λ{h}=>by
  refine oC rfl (λj=>?_) rfl (λg=>?_) λj=>?_<;>simp[ai.aX,ins,nL,aN]
 unfold aF at hx;split at hx
 .rename_i hs;simp only at hx;split at hx
  .rename_i hc;cases hx;refine⟨?_,O.aX hj (abi _)⟩;rw[put,put,<-xE hj,RV hs]
   .rfl
   .simp only[ins];rw[AT hj,AT hj];exact hc
  .cases hx
 .cases hx
theorem agq {h h1 k x e cs}(O:Ok k h)(hs:cs.all eS=true)(hx:aF (some k) e cs h=some (x,h1)):x=k/\h1=h.aX k h.next e cs:=by
 rw[RV hs ⟨O.used,O.lt,by rw[O.get];rfl⟩] at hx;cases hx;exact⟨rfl,rfl⟩
theorem Zw {n h}(e:Qk n hZ=some (true,h)):qZ n hZ=some (true,h):=by
 unfold Qk at e;obtain⟨x0,h0,e0,e⟩:=wP e;obtain⟨x1,h1,e1,e⟩:=wP e;obtain⟨x2,h2,e2,e⟩:=wP e;obtain⟨x3,h3,e3,e⟩:=wP e;obtain⟨x4,h4,e4,e⟩:=wP e;obtain⟨x5,h5,e5,e⟩:=wP e;have w0:=((iL (b:=0)).wf _ _ _ ahU e0).1;have w1:=((iL (b:=0)).wf _ _ _ w0 e1).1;have w2:=((Mn.aF (b:=0)).wf _ _ _ w1 e2).1;have w3:=((Ib (b:=0)).wf _ _ _ w2 e3).1;have w4:=((Mn.aF (b:=0)).wf _ _ _ w3 e4).1;have w5:=((Mn.bh (b:=0)).wf _ _ _ w4 e5).1;obtain⟨x6,h6,e6,e⟩:=wP e;have e6':=e6;cases e6;have O6:Ok (h5.next+11) { h5 with next:=h5.next+14 }:=Ok.of w5 (by decide)
 obtain⟨x7,h7,e7,e⟩:=wP e;have O7:=((Mn.aE).mn _ none false 0 _ _ _ (IT _) (λ_ _ _ _ hx=>by cases hx) O6 e7).2;obtain⟨x9,h9,e9,e⟩:=wP e;obtain⟨f9,O9⟩:=Mn.late (e:=aj) (cs:=[aO,vi 0]) iL O7 e9;obtain⟨fD,h10,e10,e⟩:=wP e;obtain⟨f10,O10⟩:=Mn.late (e:=aj) (cs:=[aO,vi 0]) iL O9 e10;obtain⟨x11,h11,e11,e⟩:=wP e;obtain⟨f11,O11⟩:=Mn.late (e:=aj) (cs:=[aO,vi 0]) iL O10 e11;obtain⟨x12,h12,e12,e⟩:=wP e;obtain⟨f12,O12⟩:=Zv (e:=aj) (cs:=[aO,vi 0]) O11 (by omega) e12;obtain⟨x13,h13,e13,e⟩:=wP e;obtain⟨f13,O13⟩:=Mn.late (e:=aj) (cs:=[aO,vi 0]) LQ O12 e13;obtain⟨x8,h8,e8,e⟩:=wP e;obtain⟨rfl,rfl⟩:=agq O13 rfl e8;unfold qZ;exact wQ e0 (wQ e1 (wQ e2 (wQ e3 (wQ e4 (wQ e5 (wQ e6' (wQ e7 (wQ (RV rfl ⟨O7.used,O7.lt,by rw[O7.get];rfl⟩) (wQ f9 (wQ f10 (wQ f11 (wQ f12 (wQ f13 e)))))))))))))
def D6 (_:Nat):M Bool:=AI true
theorem UX n:aK Tryz.prog ⟨5,[],[lS],λ_=>D6 n⟩:=
 let ⟨_,hm⟩:=UU UW
 aak (y5 3000) (λargs w=>jc (fn:=Tryz.f5) (by kernel_rfl) (by kernel_rfl) (by kernel_rfl) args w) (Zw hm)
end Go.Sh
