
import Derived.Test.YtengdffgmpghgaaGreatDoorAgoT
namespace Go.Ago
open Go
variable {P:Program}{h h' h1:ab}{C:mR}
def mR.ok (C:mR):mR:={ C with
 st:=λf vs=>match C.st f vs with
  |some ca=>some ca
  |none=>(match C.sp f vs with
   |some ca=>some ⟨ca.α,λh=>match ca.m h with|some (.inl x,h')=>some (x,h')|_=>none,ca.pk⟩
   |none=>none)
 mo:=C.mo'
 sp:=λ_ _=>none
 isP:=λ_=>false }
def mark {α:Type}:α⊕ξ->ξ
 |.inl _=>.tuple #[]
 |.inr v=>.tuple #[v]
def mR.mk' (C:mR):mR:={ C with
 st:=λf vs=>match C.st f vs with
  |some ca=>some ca
  |none=>(match C.sp f vs with
   |some ca=>some ⟨ca.α⊕ξ,ca.m,mark⟩
   |none=>none)
 mo:=C.mo' }
theorem CY.split {S:Type}{St:Nat->S->S->Prop}:∀(a:η) {b:η} {s f:S},CY St (a++b) s f->∃m,CY St a s m/\CY St b m f
 |[],b,s,f,hr=>⟨s,.nil s,hr⟩
 |x::a,b,s,f,.cons h1 h2=>
  let ⟨m,q1,q2⟩:=CY.split a h2
  ⟨m,.cons h1 q1,q2⟩
section
variable {R:Type}{W:Wr}{nb:Nat}{ops:Array Oper}{Af:Nat->θ}{Ck:Nat->List θ}{Kk:Nat->η}
end
theorem afl {nb:Nat}{ops:Array Oper}{l:List (Nat×η)}(hb:bOK P C ops l=true):∀(j:Nat) cs (i:Nat) o p f,(j,cs)∈l->i∈cs->ops[i]?=some o->Ef (cls P ops o)=true->ops[j]?=some p->wM p=some f ->
  (C.oo P nb ops l).isP f=false/\∀vs ca,(C.oo P nb ops l).st f vs=some ca->IK (nb+i) ca.m:=by
 intro j cs i o p f a1 a2 a3 a4 a5 a6;unfold bOK at hb;have h1:=List.all_eq_true.1 hb _ a1;simp only[a5,a6] at h1;have h2:=List.all_eq_true.1 h1 _ a2;have h3:Ff P ops i=true:=by unfold Ff;rw[a3];exact a4
 rw[h3] at h2;simp only[akz,Bool.false_or,aag,ajr] at h2;refine⟨h2.1,λvs ca hca=>?_⟩
 grind [mR.oo,Nat.eq_of_beq_eq_true,TD]
end Go.Ago
