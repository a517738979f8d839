
import Derived.Test.YtdbjhobkhjneeaaGreatDoorSp
import Derived.Test.YtdbjhobkhjneeaaGreatDoorSh0
set_option linter.all false
namespace Go.Sh
open Go Go.Ago
variable {h h':aj}{S S':MX}{n:Nat}
theorem tH {x:Int}(h1:-9223372036854775808<=x)(h2:x<=9223372036854775807):IntKind.i64.wrap x=x:=IntWalk.i64_in x (by omega)
def Is (S:MX)(p:PV):Prop:=S.at'=p.pos/\S.nodes.map cm.v=p.nodes/\S.qf=p.qf/\S.err=0
def Res (h:aj)(S:MX)(r:Rs (Int×PV))(x:Int×Bool)(h':aj):Prop:=
 ∃S',St h' S'/\Yb h S h' S'/\match r with
  |.ok (n,p)=>x=(n,true)/\Is S' p
  |.error e=>x.2=false/\S'.off=e.1/\S'.err=e.2/\e.2≠0
def Fr.opq {h:aj}(hw:WF h):Fr (λ_=>False) h { h with next:=h.next+1,used:=λj=>cond (Nat.beq j h.next) true (h.used j) }:=by
 refine⟨⟨λj hj=>hw.get j (by simp at hj;omega),λj hj=>?_,λj c g b e hj=>abK (hw.iL j c g b e hj) (alp _),λj hj=>hw.maps j (cu hj).2⟩,alp _,λ_ _ _ _ _ h _=>h,λ_ _ _=>rfl,λj hj=>?_,λ_ _ h=>h,λ_ _ h _=>h⟩
 .simp only at hj⊢;rw[bM (by omega)];exact hw.used j (by omega)
 .simp only;rw[bM (by omega)];rfl
def LX {h:aj}{Q:Nat->aj->Prop}(hq:∀h',(WF h->Fr (λ_=>False) h h')->Q h.next h'):Wp opq h Q:=⟨_,_,rfl,hq _ Fr.opq⟩
theorem zu (s:ζ)(i:Nat):s[i]?=s.data.toList[i]?:=by
 by_cases hi:i<s.size
 .rw[getElem?_pos s i hi,abt (by rwa [mW])];rfl
 .rw[getElem?_neg s i hi,agW (by rw[mW];omega)]
theorem SF (s:ζ)(a b:Nat):(s.extract a b).data.toList=(s.data.toList.drop a).take (b-a):=by
 simp[alC]
def ac8 (x y:ζ):mQ x y=true↔x.data.toList=y.data.toList:=by
 rw[qI,ByteArray.toList_eq,ByteArray.toList_eq];simp
def Wa (c:UInt8):nQ c=(decide (48<=(c.toNat:Int))&&decide ((c.toNat:Int)<=57)):=by
 unfold nQ;rw[an2];simp;omega
end Go.Sh
