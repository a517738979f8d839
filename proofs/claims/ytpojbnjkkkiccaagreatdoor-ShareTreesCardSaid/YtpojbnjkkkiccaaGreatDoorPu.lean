
import Derived.Test.YtpojbnjkkkiccaaGreatDoorSh1
import Derived.Test.YtpojbnjkkkiccaaGreatDoorAgoK
set_option linter.all false
set_option maxRecDepth 30000
set_option maxHeartbeats 0
namespace Go.Sh
open Go Go.Ago Go.Proofs
noncomputable def alF (m:M Bool):Bool:=match m hZ with
 |some (x,_)=>x
 |none=>false
def Yf {m}(h:alF m=true):∃h1,m hZ=some (true,h1):=by
 unfold alF at h;cases e:m hZ with
 |none=>rw[e] at h;cases h
 |some p=>obtain⟨x,h1⟩:=p;rw[e] at h;simp at h;subst h;exact⟨h1,rfl⟩
theorem Yg:alF (xI 3000)=true:=by kernel_rfl
def Oo (_:Nat):M Bool:=AI true
def Yh (n:Nat):aC Tryz.prog ⟨4,[],[jc],λ_=>Oo n⟩:=
 let ⟨_,hm⟩:=Yf Yg
 adu (Bn 3000) (λargs w=>iN (fn:=Tryz.f4) (by kernel_rfl) (by kernel_rfl) (by kernel_rfl) args w) hm
end Go.Sh
