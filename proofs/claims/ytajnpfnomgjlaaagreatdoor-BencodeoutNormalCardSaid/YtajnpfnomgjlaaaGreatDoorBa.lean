
import Derived.Test.YtajnpfnomgjlaaaGreatDoorSp
import Derived.Test.YtajnpfnomgjlaaaGreatDoorSh1
set_option linter.all false
namespace Go.Sh
open Go Go.Ago
variable {h h':ai}{S S':ED}{n:Nat}
theorem xG {x}(h1:-9223372036854775808<=x)(h2:x<=9223372036854775807):IntKind.i64.wrap x=x:=IntWalk.i64_in x (by omega)
def Is (S:ED)(p:PV):Prop:=S.at'=p.pos/\S.nodes.map bC.v=p.nodes/\S.jY=p.jY/\S.err=0
def Z7 (h:ai)(S:ED)(r:Rs (Int×PV))(x:Int×Bool)(h':ai):Prop:=
 ∃S',St h' S'/\Ep h S h' S'/\match r with
  |.ok (n,p)=>x=(n,true)/\Is S' p
  |.error e=>x.2=false/\S'.off=e.1/\S'.err=e.2/\e.2≠0
theorem Ep.new (st:St h S){e cs}:St (h.new e cs) S/\Ep h S (h.new e cs) S:=by
 have f:=Fr.new (e:=e) (cs:=cs) st.wf;exact⟨st.fr f (λ_ hx=>hx.elim),rfl,f.mono st.wf (λ_ hx _=>hx.elim),λs=>.inr (.inl ⟨s,rfl⟩)⟩
theorem Fr.V2 {h}(hw:WF h):Fr (λ_=>False) h { h with next:=h.next+1,used:=λj=>cond (Nat.beq j h.next) true (h.used j) }:=by
 refine⟨⟨λj hj=>hw.get j (by simp at hj;omega),λj hj=>?_,λj c g b e hj=>adr (hw.eI j c g b e hj) (ags _),λj hj=>hw.maps j (cu hj).2⟩,ags _,λ_ _ _ _ _ h _=>h,λ_ _ _=>rfl,λj hj=>?_,λ_ _ h=>h,λ_ _ h _=>h⟩
 .simp only at hj⊢;rw[bB (by omega)];exact hw.used j (by omega)
 .simp only;rw[bB (by omega)];rfl
theorem GY {h Q}(hq:∀h',(WF h->Fr (λ_=>False) h h')->Q h.next h'):Wp V2 h Q:=⟨_,_,rfl,hq _ Fr.V2⟩
theorem BM (s:ζ)(i:Nat):s[i]?=s.data.toList[i]?:=by
 by_cases hi:i<s.size
 .rw[getElem?_pos s i hi,ace (by rwa [kW])];rfl
 .rw[getElem?_neg s i hi,aik (by rw[kW];omega)]
theorem Rb (s:ζ) a b:(s.extract a b).data.toList=(s.data.toList.drop a).take (b-a):=by
 simp[ByteArray.data_extract]
theorem aa2 x y:qE x y=true↔x.data.toList=y.data.toList:=by
 rw[tY,ByteArray.toList_eq,ByteArray.toList_eq];simp
theorem Uj c:xm c=(decide (48<=(c.toNat:Int))&&decide ((c.toNat:Int)<=57)):=by
 unfold xm;rw[ajT];simp;omega
end Go.Sh
