
import Derived.Test.YthcljaholofonaaGreatDoorSh1
import Derived.Test.YthcljaholofonaaGreatDoorAgoK
set_option linter.all false
set_option maxRecDepth 1000000
set_option maxHeartbeats 0
namespace Go.Sh
open Go Go.Ago Go.Proofs
noncomputable def anv (m:M Bool):Bool:=match m hZ with
 |some (x,_)=>x
 |none=>false
def YZ {m}(h:anv m=true):∃h1,m hZ=some (true,h1):=by
 unfold anv at h;cases e:m hZ with
 |none=>rw[e] at h;cases h
 |some p=>obtain⟨x,h1⟩:=p;rw[e] at h;simp at h;subst h;exact⟨h1,rfl⟩
theorem Y0:anv (y8 3000)=true:=by kernel_rfl
def FN (_:Nat):M Bool:=AI true
def Y1 (n:Nat):aC Tryz.prog ⟨5,[],[jd],λ_=>FN n⟩:=
 let ⟨_,hm⟩:=YZ Y0
 aex (CA 3000) (λargs w=>jl (fn:=Tryz.f5) (by kernel_rfl) (by kernel_rfl) (by kernel_rfl) args w) hm
end Go.Sh
