
import Derived.Test.YtajnpfnomgjlaaaGreatDoorAgoT
set_option linter.all false
namespace Go.Ago
open Go
variable {P:Program}{h h' h1:ai}{C:sT}
def sT.ok (C:sT):sT:={ C with
 st:=λf vs=>match C.st f vs with
  |some ca=>some ca
  |none=>(match C.sp f vs with
   |some ca=>some ⟨ca.α,λh=>match ca.m h with|some (.inl x,h')=>some (x,h')|_=>none,ca.pk⟩
   |none=>none)
 mo:=C.mo'
 sp:=λ_ _=>none
 ZR:=λ_=>false }
def mark {α:Type}:α⊕ξ->ξ
 |.inl _=>.tuple #[]
 |.inr v=>.tuple #[v]
theorem CP.split {S}{St:Nat->S->S->Prop}:∀a {b} {s f},CP St (a++b) s f->∃m,CP St a s m/\CP St b m f
 |[],b,s,f,hr=>⟨s,.nil s,hr⟩
 |x::a,b,s,f,.cons h1 h2=>
  let ⟨m,q1,q2⟩:=CP.split a h2
  ⟨m,.cons h1 q1,q2⟩
section
variable {R:Type}{W:Wr}{nb:Nat}{ops:Array Oper}{Af:Nat->θ}{Ck:Nat->List θ}{Kk:Nat->η}
end
theorem aek {nb ops l}(hb:bOK P C ops l=true):∀j cs i o p f,(j,cs)∈l->i∈cs->ops[i]?=some o->D8 (cls P ops o)=true->ops[j]?=some p->xf p=some f ->
  (C.k8 P nb ops l).ZR f=false/\∀vs ca,(C.k8 P nb ops l).st f vs=some ca->Ir (nb+i) ca.m:=by
 intro j cs i o p f a1 a2 a3 a4 a5 a6;unfold bOK at hb;have h1:=List.all_eq_true.1 hb _ a1;simp only[a5,a6] at h1;have h2:=List.all_eq_true.1 h1 _ a2;have h3:Fj P ops i=true:=by grind [Fj]
 rw[h3] at h2;simp at h2;refine⟨h2.1,λvs ca hca=>?_⟩
 grind [sT.k8,Nat.eq_of_beq_eq_true,Sn]
end Go.Ago
