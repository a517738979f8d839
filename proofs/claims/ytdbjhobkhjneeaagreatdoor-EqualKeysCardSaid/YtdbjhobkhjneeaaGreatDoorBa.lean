
import Derived.Test.YtdbjhobkhjneeaaGreatDoorSp
import Derived.Test.YtdbjhobkhjneeaaGreatDoorSh0
set_option linter.all false
namespace Go.Sh
open Go Go.Ago
variable {h h':aj}{S S':MI}{n:Nat}
theorem tC {x:Int}(h1:-9223372036854775808<=x)(h2:x<=9223372036854775807):IntKind.i64.wrap x=x:=IntWalk.i64_in x (by omega)
def Is (S:MI)(p:PV):Prop:=S.at'=p.pos/\S.nodes.map cT.v=p.nodes/\S.pZ=p.pZ/\S.err=0
def Res (h:aj)(S:MI)(r:Rs (Int×PV))(x:Int×Bool)(h':aj):Prop:=
 ∃S',St h' S'/\XL h S h' S'/\match r with
  |.ok (n,p)=>x=(n,true)/\Is S' p
  |.error e=>x.2=false/\S'.off=e.1/\S'.err=e.2/\e.2≠0
def Fr.opq {h:aj}(hw:WF h):Fr (λ_=>False) h { h with next:=h.next+1,used:=λj=>cond (Nat.beq j h.next) true (h.used j) }:=by
 refine⟨⟨λj hj=>hw.get j (by simp at hj;omega),λj hj=>?_,λj c g b e hj=>abt (hw.iL j c g b e hj) (ak2 _),λj hj=>hw.maps j (cu hj).2⟩,ak2 _,λ_ _ _ _ _ h _=>h,λ_ _ _=>rfl,λj hj=>?_,λ_ _ h=>h,λ_ _ h _=>h⟩
 .simp only at hj⊢;rw[bO (by omega)];exact hw.used j (by omega)
 .simp only;rw[bO (by omega)];rfl
def LJ {h:aj}{Q:Nat->aj->Prop}(hq:∀h',(WF h->Fr (λ_=>False) h h')->Q h.next h'):Wp opq h Q:=⟨_,_,rfl,hq _ Fr.opq⟩
theorem zq (s:ζ)(i:Nat):s[i]?=s.data.toList[i]?:=by
 by_cases hi:i<s.size
 .rw[getElem?_pos s i hi,aa9 (by rwa [mS])];rfl
 .rw[getElem?_neg s i hi,agl (by rw[mS];omega)]
theorem Sd (s:ζ)(a b:Nat):(s.extract a b).data.toList=(s.data.toList.drop a).take (b-a):=by
 simp[ak8]
def acT (x y:ζ):mM x y=true↔x.data.toList=y.data.toList:=by
 rw[qC,ByteArray.toList_eq,ByteArray.toList_eq];simp
def VM (c:UInt8):nK c=(decide (48<=(c.toNat:Int))&&decide ((c.toNat:Int)<=57)):=by
 unfold nK;rw[ane];simp;omega
end Go.Sh
