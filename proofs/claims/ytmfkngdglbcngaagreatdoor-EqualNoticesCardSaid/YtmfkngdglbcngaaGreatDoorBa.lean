
import Derived.Test.YtmfkngdglbcngaaGreatDoorSp
import Derived.Test.YtmfkngdglbcngaaGreatDoorSh3
namespace Go.Sh
open Go Go.Ago
variable {h h':af}{S S':Dz}{n:Nat}
theorem s6 {x:Int}(h1:-9223372036854775808<=x)(h2:x<=9223372036854775807):IntKind.i64.wrap x=x:=IntWalk.i64_in x (by omega)
def Is (S:Dz)(p:PV):Prop:=S.at'=p.pos/\S.nodes.map aY.v=p.nodes/\S.iF=p.iF/\S.err=0
def Cg (h:af)(S:Dz)(r:Rs (Int×PV))(x:Int×Bool)(h':af):Prop:=
 ∃S',St h' S'/\DA h S h' S'/\match r with
  |.ok (n,p)=>x=(n,true)/\Is S' p
  |.error e=>x.2=false/\S'.off=e.1/\S'.err=e.2/\e.2≠0
theorem DA.new (st:St h S){e:κ}{cs:δ}:St (h.new e cs) S/\DA h S (h.new e cs) S:=by
 have f:=Fr.new (e:=e) (cs:=cs) st.wf;exact⟨st.fr f (λ_ hx=>hx.elim),rfl,f.mono st.wf (λ_ hx _=>hx.elim),λs=>.inr (.inl ⟨s,rfl⟩)⟩
theorem Fr.opq {h:af}(hw:WF h):Fr (λ_=>False) h { h with next:=h.next+1,used:=λj=>cond (Nat.beq j h.next) true (h.used j) }:=by
 refine⟨⟨λj hj=>hw.get j (by simp at hj;omega),λj hj=>?_,λj c g b e hj=>abX (hw.dY j c g b e hj) (agC _),λj hj=>hw.maps j (by simp at hj;omega)⟩,agC _,λ_ _ _ _ _ h _=>h,λ_ _ _=>rfl,λj hj=>?_,λ_ _ h=>h,λ_ _ h _=>h⟩
 .simp only at hj⊢;rw[bD (by omega)];exact hw.used j (by omega)
 .simp only;rw[bD (by omega)];rfl
theorem J6 {h:af}{Q:Nat->af->Prop}(hq:∀h',(WF h->Fr (λ_=>False) h h')->Q h.next h'):Wp opq h Q:=⟨_,_,rfl,hq _ Fr.opq⟩
theorem xq (s:ζ)(i:Nat):s[i]?=s.data.toList[i]?:=by
 by_cases hi:i<s.size
 .rw[getElem?_pos s i hi,abi (by rwa [jl])];rfl
 .rw[getElem?_neg s i hi,ahp (by rw[jl];omega)]
theorem Qy (s:ζ)(a b:Nat):(s.extract a b).data.toList=(s.data.toList.drop a).take (b-a):=by
 simp[ByteArray.data_extract]
theorem Y8 (x y:ζ):mX x y=true↔x.data.toList=y.data.toList:=by
 unfold mX;rw[ByteArray.toList_eq,ByteArray.toList_eq];simp
theorem Tc (c:UInt8):wb c=(decide (48<=(c.toNat:Int))&&decide ((c.toNat:Int)<=57)):=by
 unfold wb;rw[Bool.eq_iff_iff];simp;omega
end Go.Sh
