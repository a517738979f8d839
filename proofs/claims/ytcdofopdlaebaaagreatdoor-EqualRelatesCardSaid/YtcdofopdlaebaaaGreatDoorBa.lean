
import Derived.Test.YtcdofopdlaebaaaGreatDoorSp
import Derived.Test.YtcdofopdlaebaaaGreatDoorSh3
set_option linter.all false
namespace Go.Sh
open Go Go.Ago
variable {h h':af}{S S':CE}{n:Nat}
theorem sq {x:Int}(h1:-9223372036854775808<=x)(h2:x<=9223372036854775807):IntKind.i64.wrap x=x:=IntWalk.i64_in x (by omega)
def Is (S:CE)(p:PV):Prop:=S.at'=p.pos/\S.nodes.map bC.v=p.nodes/\S.hG=p.hG/\S.err=0
def Bi (h:af)(S:CE)(r:Rs (Int×PV))(x:Int×Bool)(h':af):Prop:=
 ∃S',St h' S'/\CF h S h' S'/\match r with
  |.ok (n,p)=>x=(n,true)/\Is S' p
  |.error e=>x.2=false/\S'.off=e.1/\S'.err=e.2/\e.2≠0
theorem CF.new (st:St h S){e:TypeId}{cs:List Value}:St (h.new e cs) S/\CF h S (h.new e cs) S:=by
 have f:=Fr.new (e:=e) (cs:=cs) st.wf;exact⟨st.fr f (λ_ hx=>hx.elim),rfl,f.mono st.wf (λ_ hx _=>hx.elim),λs=>.inr (.inl ⟨s,rfl⟩)⟩
theorem Fr.opq {h:af}(hw:WF h):Fr (λ_=>False) h { h with next:=h.next+1,used:=λj=>cond (Nat.beq j h.next) true (h.used j) }:=by
 refine⟨⟨λj hj=>hw.get j (by simp at hj;omega),λj hj=>?_,λj c g b e hj=>abU (hw.dW j c g b e hj) (afr _),λj hj=>hw.maps j (by simp at hj;omega)⟩,afr _,λ_ _ _ _ _ h _=>h,λ_ _ _=>rfl,λj hj=>?_,λ_ _ h=>h,λ_ _ h _=>h⟩
 .simp only at hj⊢;rw[bB (by omega)];exact hw.used j (by omega)
 .simp only;rw[bB (by omega)];rfl
theorem Jg {h:af}{Q:Nat->af->Prop}(hq:∀h',(WF h->Fr (λ_=>False) h h')->Q h.next h'):Wp opq h Q:=⟨_,_,rfl,hq _ Fr.opq⟩
theorem wE (s:ByteArray)(i:Nat):s[i]?=s.data.toList[i]?:=by
 by_cases hi:i<s.size
 .rw[getElem?_pos s i hi,aaJ (by rwa [iU])];rfl
 .rw[getElem?_neg s i hi,ad8 (by rw[iU];omega)]
theorem PI (s:ByteArray)(a b:Nat):(s.extract a b).data.toList=(s.data.toList.drop a).take (b-a):=by
 simp[ByteArray.data_extract]
theorem Yj (x y:ByteArray):mI x y=true↔x.data.toList=y.data.toList:=by
 unfold mI;rw[ByteArray.toList_eq,ByteArray.toList_eq];simp
theorem Sd (c:UInt8):tO c=(decide (48<=(c.toNat:Int))&&decide ((c.toNat:Int)<=57)):=by
 unfold tO;rw[Bool.eq_iff_iff];simp;omega
end Go.Sh
