
import Derived.Test.YtlbigfjnapgioaaGreatDoorPaa
set_option linter.all false
namespace Go.Sh
open Go Go.Ago Go.Proofs
variable {α β : Type} {h h' h0 : AHeap} {L : List Own} {Q : β → AHeap → Prop}
def kAt : List Bool → Nat → List Int
 | [],_=>[]
 | b :: bs,n=>(n : Int) :: kAt bs (if b then n + 1 else n)
def mvs (at' : List Int) : List Int → Option (List Int)
 | []=>some []
 | x :: xs=>match gt at' x,mvs at' xs with
  | some v,some r=>some (v :: r)
  | _,_=>none
def kN (at' : List Int) : List Bool → List NodeV → Option (List NodeV)
 | _,[]=>some []
 | [],_ :: _=>none
 | b :: bs,x :: xs=>if b then match mvs at' x.keys,mvs at' x.items,kN at' bs xs with
   | some ks,some is,some r=>some ({ x with keys:=ks,items:=is } :: r)
   | _,_,_=>none
  else kN at' bs xs
def kept (k : Nat) (N : List NodeV) (root : Int) : Option (List NodeV × Int):=match vis k N root (List.replicate N.length false) with
 | none=>none
 | some ms=>match gt (kAt ms 0) root,kN (kAt ms 0) ms N with
  | some r,some N'=>some (N',r)
  | _,_=>none
theorem fill {ys : List Int} {i : Nat} {v : Int} (hv : ys[i]? = some v) : (ys.take i ++ List.replicate (ys.length - i) 0).set i v = ys.take (i + 1) ++ List.replicate (ys.length - (i + 1)) 0:=by
 have hlt:=lt_of_get hv
 have e : ys.length - i = (ys.length - (i + 1)) + 1:=by omega
 rw [List.set_append_right _ _ (by simp;omega),e,List.replicate_succ,List.length_take,Nat.min_eq_left (by omega),Nat.sub_self,List.set_cons_zero,List.take_add_one,hv,List.append_assoc]
 rfl
theorem chk_call {cks : List (Option Addr)} {m : M α} {f : α → M β} {P : α → AHeap → Prop} (ha : ∀ a,some a ∈ cks → ∃ cs e,LB h a.block cs e∧∀ r h',P r h' → LB h' a.block cs e) (hm : Wp m h P) (q : ∀ r h',P r h' → Wp (f r) h' Q) : Wp (M.bind (chk cks m) f) h Q:=by
 rw [Wp_bind]
 refine chk_Wp (hm.mono fun r h' hp=>⟨fun a hma=>?_,q r h' hp⟩)
 obtain ⟨cs,e,l1,l2⟩:=ha a hma
 rw [(l2 r h' hp).get,l1.get]
structure KR where
 v : NodeV
 kb : Nat
 ib : Nat
def KR.r (x : KR) : NodeR:=⟨x.v.kind,x.v.text,x.v.ord,arr x.kb x.v.keys.length,x.v.keys,x.kb + 1,arr x.ib x.v.items.length,x.v.items,x.ib + 1⟩
def KR.own (x : KR) : List Own:=[.blk x.kb (x.v.keys.map vi) T_i64,.blk x.ib (x.v.items.map vi) T_i64]
end Go.Sh
