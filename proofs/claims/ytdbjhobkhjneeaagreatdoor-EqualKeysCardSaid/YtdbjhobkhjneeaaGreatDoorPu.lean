
import Derived.Test.YtdbjhobkhjneeaaGreatDoorSh0
import Derived.Test.YtdbjhobkhjneeaaGreatDoorAgoK
set_option linter.all false
set_option maxRecDepth 30000
set_option maxHeartbeats 0
namespace Go.Sh
open Go Go.Ago Go.Proofs
noncomputable def aj1 (m:M Bool):Bool:=match m hZ with
 |some (x,_)=>x
 |none=>false
def Wz {m}(h:aj1 m=true):∃h1,m hZ=some (true,h1):=by
 unfold aj1 at h;cases e:m hZ with
 |none=>rw[e] at h;cases h
 |some p=>obtain⟨x,h1⟩:=p;rw[e] at h;simp at h;subst h;exact⟨h1,rfl⟩
theorem WA:aj1 (wM 3000)=true:=by kernel_rfl
def Mz (_:Nat):M Bool:=AI true
def WB (n:Nat):aH Tryz.prog ⟨5,[],[jF],λ_=>Mz n⟩:=
 let ⟨_,hm⟩:=Wz WA
 abY (Ai 3000) (λargs w=>iW (fn:=Tryz.f5) (by kernel_rfl) (by kernel_rfl) (by kernel_rfl) args w) hm
end Go.Sh
