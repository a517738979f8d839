
import Derived.Test.YtmjkmdhbcmckgaaGreatDoorSp
import Derived.IntWalk
import Derived.Laws.Strings
import Derived.Test.YtmjkmdhbcmckgaaGreatDoorSh0
set_option linter.all false
namespace Go.Sh
open Go Go.Ago
variable {h h':AHeap}{S S':PSt}{n:Nat}
theorem w64 {x:Int}(h1:-9223372036854775808≤x)(h2:x≤9223372036854775807):IntKind.i64.wrap x=x:=IntWalk.i64_in x (by omega)
def Is (S:PSt)(p:PV):Prop:=S.at'=p.pos∧S.nodes.map NodeR.v=p.nodes∧S.spans=p.spans∧S.err=0
def Res (h:AHeap)(S:PSt)(r:Rs (Int×PV))(x:Int×Bool)(h':AHeap):Prop :=
 ∃ S',St h' S'∧Stp h S h' S'∧match r with
  | .ok (n,p)=>x=(n,true)∧Is S' p
  | .error e=>x.2=false∧S'.off=e.1∧S'.err=e.2∧e.2≠0
theorem Stp.new (st:St h S){e:TypeId}{cs:List Value}:St (h.new e cs) S∧Stp h S (h.new e cs) S:=by
 have f:=Fr.new (e:=e) (cs:=cs) st.wf
 exact⟨st.fr f (fun _ hx=>hx.elim),rfl,f.mono st.wf (fun _ hx _=>hx.elim),fun s=>.inr (.inl ⟨s,rfl⟩)⟩
theorem Fr.opq {h:AHeap}(hw:WF h):Fr (fun _=>False) h { h with next:=h.next+1,used:=fun j=>cond (Nat.beq j h.next) true (h.used j) }:=by
 refine⟨⟨fun j hj=>hw.get j (by simp at hj;omega),fun j hj=>?_,fun j c g b e hj=>Nat.le_trans (hw.grp j c g b e hj) (Nat.le_succ _),fun j hj=>hw.maps j (by simp at hj;omega)⟩,Nat.le_succ _,fun _ _ _ _ _ h _=>h,fun _ _ _=>rfl,fun j hj=>?_,fun _ _ h=>h,fun _ _ h _=>h⟩
 ·simp only at hj ⊢
  rw [beq_ne (by omega)];exact hw.used j (by omega)
 ·simp only
  rw [beq_ne (by omega)];rfl
theorem Wp_opq {h:AHeap}{Q:Nat→AHeap→Prop}(hq:∀ h',(WF h→Fr (fun _=>False) h h')→Q h.next h'):Wp opq h Q:=⟨_,_,rfl,hq _ Fr.opq⟩
theorem ba_get (s:ByteArray)(i:Nat):s[i]?=s.data.toList[i]?:=by
 by_cases hi:i<s.size
 ·rw [getElem?_pos s i hi,List.getElem?_eq_getElem (by rwa [size_toList])];rfl
 ·rw [getElem?_neg s i hi,List.getElem?_eq_none (by rw [size_toList];omega)]
theorem ex_list (s:ByteArray)(a b:Nat):(s.extract a b).data.toList=(s.data.toList.drop a).take (b - a):=by
 simp [ByteArray.data_extract]
theorem eqS_iff (x y:ByteArray):eqS x y=true↔x.data.toList=y.data.toList:=by
 unfold eqS;rw [ByteArray.toList_eq,ByteArray.toList_eq];simp
theorem isDig_int (c:UInt8):isDig c=(decide (48≤(c.toNat:Int)) && decide ((c.toNat:Int)≤57)):=by
 unfold isDig
 rw [Bool.eq_iff_iff];simp;omega
end Go.Sh
