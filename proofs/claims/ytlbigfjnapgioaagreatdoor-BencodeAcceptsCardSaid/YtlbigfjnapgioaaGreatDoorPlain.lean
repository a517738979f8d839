
import Derived.Test.YtlbigfjnapgioaaGreatDoorSp
set_option linter.all false
namespace Go.Sh
open Go Go.Ago Go.Proofs
theorem tot (s : ByteArray) : ∀ m,
  (∀ k sn d p,2 * k + 1 ≤ m → Inv s p → s.size - p.pos ≤ k → ((sp s m).V sn d p).isSome = true) ∧
  (∀ k (nd : Nat) sp' k' d p,2 * k + 2 ≤ m → Inv s p → nd < p.nodes.length → s.size - p.pos ≤ k → ((sp s m).L nd sp' k' d p).isSome = true) ∧
  (∀ k (nd : Nat) sp' k' d last p,2 * k + 2 ≤ m → Inv s p → nd < p.nodes.length → s.size - p.pos ≤ k → ((sp s m).D nd sp' k' d last p).isSome = true)
 | 0=>⟨fun _ _ _ _ h=>by omega,fun _ _ _ _ _ _ h=>by omega,fun _ _ _ _ _ _ _ h=>by omega⟩
 | m + 1=>by
  obtain ⟨tV,tL,tD⟩:=tot s m
  have opn : ∀ {p : PV} {x : SpanV} {sp' d : Nat} {kind : Int} {k : Nat},2 * k + 1 ≤ m + 1 → Inv s p → s.size - p.pos ≤ k → p.pos < s.size → (spOpen s (sp s m) { p with spans:=p.spans ++ [x] } sp' d kind).isSome = true:=by
   intro p x sp' d kind k hm i hk hlt
   unfold spOpen
   cases hn : spNode { p with spans:=p.spans ++ [x] } ⟨kind,ofBytes [],false,[],[]⟩ p.pos d with
   | error e=>rfl
   | ok q =>
    obtain ⟨n,p1⟩:=q
    obtain ⟨rfl,rfl,h1,_⟩:=spNode_ok hn
    have i1:=inv_open (x:=x) (kind:=kind) i hlt h1
    simp only
    have hL:=tL (k - 1) p.nodes.length sp' 0 d _ (by omega) i1 (by simp) (by simp;omega)
    have hD:=tD (k - 1) p.nodes.length sp' 0 d (ofBytes []) _ (by omega) i1 (by simp) (by simp;omega)
    by_cases hk9 : kind = 9
    ·simp only [if_pos hk9]
     obtain ⟨r,hr⟩:=Option.isSome_iff_exists.1 hL
     rw [hr];cases r <;> rfl
    ·simp only [if_neg hk9]
     obtain ⟨r,hr⟩:=Option.isSome_iff_exists.1 hD
     rw [hr];cases r <;> rfl
  refine ⟨fun k sn d p hm i hk=>?_,fun k nd sp' k' d p hm i hn hk=>?_,fun k nd sp' k' d last p hm i hn hk=>?_⟩
  ·simp only [sp,spV]
   by_cases hle : s.size ≤ p.pos
   ·rw [if_pos hle];rfl
   ·rw [if_neg hle]
    have hr : (spRead s (sp s m) { p with spans:=p.spans ++ [{ sn with frm:=p.pos,whole:=true }] } p.spans.length d).isSome = true:=by
     unfold spRead
     split
     ·rfl
     ·split
      ·rfl
      ·split
       ·exact opn hm i hk (by omega)
       ·split
        ·exact opn hm i hk (by omega)
        ·rfl
    obtain ⟨r,hr⟩:=Option.isSome_iff_exists.1 hr
    rw [hr];cases r <;> rfl
  ·simp only [sp,spL]
   split
   ·rfl
   ·rename_i c hc
    have hlt:=get_lt hc
    split
    ·rfl
    ·obtain ⟨r,hr⟩:=Option.isSome_iff_exists.1 (tV k (span0 sp' k' 0 0) (d + 1) p (by omega) i hk)
     rw [hr]
     cases r with
     | error e=>rfl
     | ok q =>
      obtain ⟨it,p2⟩:=q
      obtain ⟨a,_⟩:=(sp_good s m).V _ _ _ _ _ i hr
      have am:=Adv.modify (f:=fun x=>{ x with items:=x.items ++ [it] }) i a hn (by simp)
      have hp : p.pos < p2.pos:=am.pos
      exact tL (k - 1) nd sp' (k' + 1) d _ (by omega) am.inv (Nat.lt_of_lt_of_le hn am.nodes) (by show s.size - p2.pos ≤ k - 1;omega)
  ·simp only [sp,spD]
   split
   ·rfl
   ·rename_i c hc
    have hlt:=get_lt hc
    split
    ·rfl
    ·split
     ·rfl
     ·rename_i t a ht
      obtain ⟨e1,e2⟩:=spText_ok ht
      split
      ·rfl
      ·rename_i key p1 hk'
       obtain ⟨rfl,rfl,h1,h2⟩:=spNode_ok hk'
       have a1 : ∀ ex,Adv s ex p { p with pos:=a,nodes:=p.nodes ++ [⟨5,t,false,[],[]⟩] }:=fun ex=>Adv.step i e1 e2 h1 (by simp)
       split
       ·rfl
       ·split
        ·rfl
        ·obtain ⟨r,hr⟩:=Option.isSome_iff_exists.1 (tV (k - 1) (span0 sp' k' p.pos a) (d + 1) { p with pos:=a,nodes:=p.nodes ++ [⟨5,t,false,[],[]⟩] } (by omega) (a1 0).inv (by simp;omega))
         rw [hr]
         cases r with
         | error e=>rfl
         | ok q =>
          obtain ⟨it,p2⟩:=q
          obtain ⟨a3,_⟩:=(sp_good s m).V _ _ _ _ _ (a1 0).inv hr
          have am:=Adv.modify (f:=fun x=>{ x with keys:=x.keys ++ [(p.nodes.length : Int)],items:=x.items ++ [it] }) i (fun ex=>(a1 ex).trans (a3 ex)) hn (by simp)
          have hp : p.pos < p2.pos:=am.pos
          exact tD (k - 1) nd sp' (k' + 1) d t _ (by omega) am.inv (Nat.lt_of_lt_of_le hn am.nodes) (by show s.size - p2.pos ≤ k - 1;omega)
def spParse (s : ByteArray) (m : Nat) : Option (Rs PV) :=
 if 65536 < s.size then some (.error (0,6)) else
 match (sp s m).V (span0 (-1) 0 0 0) 0 ⟨0,[],[]⟩ with
 | none=>none
 | some (.error e)=>some (.error e)
 | some (.ok (_,p))=>if p.pos < s.size then some (.error (p.pos,4)) else some (.ok p)
theorem spParse_some (s : ByteArray) (m : Nat) (hm : 2 * s.size + 1 ≤ m) : ∃ r,spParse s m = some r:=by
 unfold spParse
 split
 ·exact ⟨_,rfl⟩
 ·obtain ⟨r,hr⟩:=Option.isSome_iff_exists.1 ((tot s m).1 s.size (span0 (-1) 0 0 0) 0 ⟨0,[],[]⟩ hm ⟨by simp,by simp,by simp,by simp⟩ (by simp))
  rw [hr]
  cases r with
  | error e=>exact ⟨_,rfl⟩
  | ok q =>
   obtain ⟨n,p⟩:=q
   by_cases h : p.pos < s.size
   ·exact ⟨_,by simp only [if_pos h];rfl⟩
   ·exact ⟨_,by simp only [if_neg h];rfl⟩
end Go.Sh
