
import Derived.Test.YtengdffgmpghgaaGreatDoorSh4
import Derived.Test.YtengdffgmpghgaaGreatDoorAgoK
set_option maxRecDepth 1000000
set_option maxHeartbeats 0
namespace Go.Sh
open Go Go.Ago Go.Proofs
noncomputable def ahK (m:M Bool):Bool:=match m hZ with
 |some (x,_)=>x
 |none=>false
theorem VV {m:M Bool}(h:ahK m=true):∃h1,m hZ=some (true,h1):=by
 unfold ahK at h;cases e:m hZ with
 |none=>rw[e] at h;cases h
 |some p=>obtain⟨x,h1⟩:=p;rw[e] at h;simp only at h;subst h;exact⟨h1,rfl⟩
theorem VW:ahK (vp 100)=true:=by kernel_rfl
def Rh (_:Nat):M Bool:=AI true
theorem VX (n:Nat):aF Tryz.prog ⟨4,[],[hS],λ_=>Rh n⟩:=
 let ⟨_,hm⟩:=VV VW
 aaT (yV 100) (λargs w=>ia (fn:=Tryz.f4) (by kernel_rfl) (by kernel_rfl) (by kernel_rfl) args w) hm
end Go.Sh
