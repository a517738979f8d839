
import Derived.Test.YtpojbnjkkkiccaaGreatDoorSp
import Derived.Test.YtpojbnjkkkiccaaGreatDoorSh1
set_option linter.all false
namespace Go.Sh
open Go Go.Ago
variable {h h':ai}{S S':Ow}{n:Nat}
theorem xQ {x:Int}(h1:-9223372036854775808<=x)(h2:x<=9223372036854775807):IntKind.i64.wrap x=x:=IntWalk.i64_in x (by omega)
def Is (S:Ow)(p:PV):Prop:=S.at'=p.pos/\S.nodes.map aH.v=p.nodes/\S.qJ=p.qJ/\S.err=0
def Res (h:ai)(S:Ow)(r:Rs (Int×PV))(x:Int×Bool)(h':ai):Prop:=
 ∃S',St h' S'/\Zr h S h' S'/\match r with
  |.ok (n,p)=>x=(n,true)/\Is S' p
  |.error e=>x.2=false/\S'.off=e.1/\S'.err=e.2/\e.2≠0
def Fr.opq {h:ai}(hw:WF h):Fr (λ_=>False) h { h with next:=h.next+1,used:=λj=>cond (Nat.beq j h.next) true (h.used j) }:=by
 refine⟨⟨λj hj=>hw.get j (by simp at hj;omega),λj hj=>?_,λj c g b e hj=>acY (hw.jo j c g b e hj) (ane _),λj hj=>hw.maps j (cu hj).2⟩,ane _,λ_ _ _ _ _ h _=>h,λ_ _ _=>rfl,λj hj=>?_,λ_ _ h=>h,λ_ _ h _=>h⟩
 .simp only at hj⊢;rw[cQ (by omega)];exact hw.used j (by omega)
 .simp only;rw[cQ (by omega)];rfl
def NO {h:ai}{Q:Nat->ai->Prop}(hq:∀h',(WF h->Fr (λ_=>False) h h')->Q h.next h'):Wp opq h Q:=⟨_,_,rfl,hq _ Fr.opq⟩
theorem EV (s:ζ)(i:Nat):s[i]?=s.data.toList[i]?:=by
 by_cases hi:i<s.size
 .rw[getElem?_pos s i hi,aci (by rwa [nD])];rfl
 .rw[getElem?_neg s i hi,ahW (by rw[nD];omega)]
theorem UD (s:ζ)(a b:Nat):(s.extract a b).data.toList=(s.data.toList.drop a).take (b-a):=by
 simp[aoD]
def aeN (x y:ζ):qk x y=true↔x.data.toList=y.data.toList:=by
 rw[sM,ByteArray.toList_eq,ByteArray.toList_eq];simp
def XC (c:UInt8):pP c=(decide (48<=(c.toNat:Int))&&decide ((c.toNat:Int)<=57)):=by
 unfold pP;rw[ao3];simp;omega
end Go.Sh
