
import Derived.Test.YtdbjhobkhjneeaaGreatDoorSh0
import Derived.Test.YtdbjhobkhjneeaaGreatDoorAgoK
set_option linter.all false
set_option maxRecDepth 30000
set_option maxHeartbeats 0
namespace Go.Sh
open Go Go.Ago Go.Proofs
noncomputable def ake (m:M Bool):Bool:=match m hZ with
 |some (x,_)=>x
 |none=>false
def WY {m}(h:ake m=true):∃h1,m hZ=some (true,h1):=by
 unfold ake at h;cases e:m hZ with
 |none=>rw[e] at h;cases h
 |some p=>obtain⟨x,h1⟩:=p;rw[e] at h;simp at h;subst h;exact⟨h1,rfl⟩
theorem WZ:ake (wO 3000)=true:=by kernel_rfl
def MO (_:Nat):M Bool:=AI true
def W1 (n:Nat):aH Tryz.prog ⟨5,[],[jE],λ_=>MO n⟩:=
 let ⟨_,hm⟩:=WY WZ
 ace (Al 3000) (λargs w=>iV (fn:=Tryz.f5) (by kernel_rfl) (by kernel_rfl) (by kernel_rfl) args w) hm
end Go.Sh
