
import Derived.Test.YtmjkmdhbcmckgaaGreatDoorPad
set_option linter.all false
namespace Go.Sh
open Go Go.Ago Go.Proofs
variable {α β:Type}
def IR (n:Nat)(v:Int):Prop:=0≤v∧v<(n:Int)
def Edge (N:List NodeV)(u v:Int):Prop:=∃ x,gt N u=some x∧(v ∈ x.keys∨v ∈ x.items)
theorem gt_ir {l:List α}{n:Nat}(hl:l.length=n){v:Int}(hv:IR n v):∃ x,gt l v=some x:=by
 unfold gt
 rw [if_pos hv.1]
 obtain⟨h1,h2⟩:=hv
 exact⟨_,List.getElem?_eq_getElem (by omega)⟩
theorem ir_gt {l:List α}{v:Int}{x:α}(hx:gt l v=some x):IR l.length v:=by
 obtain⟨h1,h2⟩:=gt_some hx
 have:=(List.getElem?_eq_some_iff.1 h2).1
 exact⟨h1,by omega⟩
theorem gt_set {l:List α}{a u:Int}{x:α}(ha:IR l.length a):gt (l.set a.toNat x) u=if u=a then some x else gt l u:=by
 unfold gt
 obtain⟨h1,h2⟩:=ha
 by_cases hu:u=a
 ·subst hu;rw [if_pos h1,if_pos rfl,List.getElem?_set_self (by omega)]
 ·rw [if_neg hu]
  split
  ·rw [List.getElem?_set_ne (by omega)]
  ·rfl
def IxOK (N:List NodeV)(n:Nat):Prop:=∀ x ∈ N,(∀ v ∈ x.keys,IR n v)∧∀ v ∈ x.items,IR n v
theorem gt_mem {l:List α}{v:Int}{x:α}(hx:gt l v=some x):x ∈ l:=List.mem_of_getElem? (gt_some hx).2
theorem inds_of {N:List NodeV}{root:Int}(h:inds N root=true):IR N.length root∧IxOK N N.length:=by
 unfold inds at h
 rw [Bool.and_eq_true] at h
 have key:∀ v,okIx N.length v=true→IR N.length v:=fun v hv=>by
  unfold okIx at hv;simpa [IR] using hv
 refine⟨key _ h.1,fun x hx=>?_⟩
 have:=List.all_eq_true.1 h.2 x hx
 rw [Bool.and_eq_true] at this
 exact⟨fun v hv=>key v (List.all_eq_true.1 this.1 v hv),fun v hv=>key v (List.all_eq_true.1 this.2 v hv)⟩
def cf (ms:List Bool):Nat:=ms.count false
theorem cf_set:∀ {ms:List Bool} {i:Nat},ms[i]?=some false→cf (ms.set i true)+1=cf ms
 | [],i,h=>by simp at h
 | m::ms,0,h=>by simp at h;subst h;simp [cf]
 | m::ms,i+1,h=>by
  have:=cf_set (ms:=ms) (i:=i) (by simpa using h)
  unfold cf at this ⊢
  rw [List.set_cons_succ,List.count_cons,List.count_cons];omega
theorem cf_le (ms:List Bool):cf ms≤ms.length:=List.count_le_length
structure VP (N:List NodeV) (n:Nat) (W:Nat→Int→Prop) (a:Int→Prop) (ms r:List Bool):Prop where
 len:r.length=ms.length
 mono:∀ u,gt ms u=some true→gt r u=some true
 at':∀ u,a u→gt r u=some true
 clo:∀ u,gt r u=some true→gt ms u=some true∨∀ v,Edge N u v→gt r v=some true
 snd:∀ t,(∀ u,a u→W t u)→t+cf ms≤n→∀ u,gt r u=some true→gt ms u=some true∨∃ s,s<n∧W s u
 cf:cf r≤cf ms
section
variable {N:List NodeV}{B n:Nat}{W:Nat→Int→Prop}
theorem vis_tot (hI:IxOK N N.length)(hB:∀ x ∈ N,x.keys.length≤B∧x.items.length≤B)(hW:∀ t u v,W t u→Edge N u v→W (t+1) v):∀ k,
  (∀ a ms,ms.length=N.length→IR N.length a→cf ms * (B+2)+1≤k→∃ r,vis k N a ms=some r∧VP N n W (·=a) ms r) ∧
  (∀ xs ms,ms.length=N.length→(∀ v ∈ xs,IR N.length v)→xs.length+cf ms * (B+2)+2≤k→∃ r,visL k N xs ms=some r∧VP N n W (· ∈ xs) ms r):=by
 intro k
 induction k with
 | zero=>exact⟨fun a ms _ _ h=>by omega,fun xs ms _ _ h=>by omega⟩
 | succ k ih =>
  refine⟨fun a ms hl ha hk=>?_,fun xs ms hl hx hk=>?_⟩
  ·rw [vis]
   obtain⟨m,hm⟩:=gt_ir hl ha
   obtain⟨x,hx⟩:=gt_ir (l:=N) rfl ha
   rw [hm]
   cases m with
   | true=>exact⟨ms,rfl,rfl,fun _ h=>h,fun u hu=>by rw [hu];exact hm,fun u h=>.inl h,fun _ _ _ u h=>.inl h,Nat.le_refl _⟩
   | false =>
    simp only [hx]
    have hcf:=cf_set (gt_some hm).2
    have hxm:=gt_mem hx
    have hmul:cf (ms.set a.toNat true) * (B+2)+(B+2)=cf ms * (B+2):=by rw [← hcf,Nat.add_mul,Nat.one_mul]
    have hset:∀ u,gt (ms.set a.toNat true) u=if u=a then some true else gt ms u:=fun u=>gt_set (by rw [hl];exact ha)
    obtain⟨m2,e2,p2⟩:=ih.2 x.keys (ms.set a.toNat true) (by simpa using hl) (hI x hxm).1 (by have:=(hB x hxm).1;omega)
    have hl2:m2.length=N.length:=by rw [p2.len];simpa using hl
    have hm2:=Nat.mul_le_mul_right (B+2) p2.cf
    obtain⟨r,e3,p3⟩:=ih.2 x.items m2 hl2 (hI x hxm).2 (by have:=(hB x hxm).2;omega)
    rw [e2]
    refine⟨r,e3,by rw [p3.len,p2.len];simp,fun u hu=>p3.mono u (p2.mono u ?_),fun u hu=>p3.mono u (p2.mono u ?_),fun u hu=>?_,fun t ht hc u hu=>?_,by have:=p2.cf;have:=p3.cf;omega⟩
    ·rw [hset];split
     ·rfl
     ·exact hu
    ·rw [hset,if_pos hu]
    ·by_cases hua:u=a
     ·refine .inr fun v hv=>?_
      subst hua
      obtain⟨y,hy,hv⟩:=hv
      rw [hx] at hy;cases hy
      rcases hv with hv | hv
      ·exact p3.mono v (p2.at' v hv)
      ·exact p3.at' v hv
     ·rcases p3.clo u hu with h | h
      ·rcases p2.clo u h with h | h
       ·rw [hset,if_neg hua] at h;exact .inl h
       ·exact .inr fun v hv=>p3.mono v (h v hv)
      ·exact .inr h
    ·have hwa:=ht a rfl
     by_cases hua:u=a
     ·subst hua;exact .inr ⟨t,by omega,hwa⟩
     ·rcases p3.snd (t+1) (fun v hv=>hW t a v hwa ⟨x,hx,.inr hv⟩) (by have:=p2.cf;omega) u hu with h | h
      ·rcases p2.snd (t+1) (fun v hv=>hW t a v hwa ⟨x,hx,.inl hv⟩) (by omega) u h with h | h
       ·rw [hset,if_neg hua] at h;exact .inl h
       ·exact .inr h
      ·exact .inr h
  ·cases xs with
   | nil=>exact⟨ms,rfl,rfl,fun _ h=>h,fun u hu=>(by cases hu),fun u h=>.inl h,fun _ _ _ u h=>.inl h,Nat.le_refl _⟩
   | cons x xs =>
    rw [visL]
    rw [List.length_cons] at hk
    obtain⟨m2,e2,p2⟩:=ih.1 x ms hl (hx x List.mem_cons_self) (by omega)
    have hm2:=Nat.mul_le_mul_right (B+2) p2.cf
    obtain⟨r,e3,p3⟩:=ih.2 xs m2 (by rw [p2.len,hl]) (fun v hv=>hx v (List.mem_cons_of_mem _ hv)) (by omega)
    rw [e2]
    refine⟨r,e3,by rw [p3.len,p2.len],fun u hu=>p3.mono u (p2.mono u hu),fun u hu=>?_,fun u hu=>?_,fun t ht hc u hu=>?_,by have:=p2.cf;have:=p3.cf;omega⟩
    ·rcases List.mem_cons.1 hu with h | h
     ·exact p3.mono u (p2.at' u h)
     ·exact p3.at' u h
    ·rcases p3.clo u hu with h | h
     ·rcases p2.clo u h with h | h
      ·exact .inl h
      ·exact .inr fun v hv=>p3.mono v (h v hv)
     ·exact .inr h
    ·rcases p3.snd t (fun v hv=>ht v (List.mem_cons_of_mem _ hv)) (by have:=p2.cf;omega) u hu with h | h
     ·exact p2.snd t (fun v hv=>by rw [hv];exact ht x List.mem_cons_self) hc u h
     ·exact .inr h
def Clo (N:List NodeV)(ms:List Bool):Prop:=∀ u,gt ms u=some true→∀ v,Edge N u v→gt ms v=some true
theorem clo_of {a:Int→Prop}{ms r:List Bool}(p:VP N n W a ms r)(c:Clo N ms):Clo N r:=fun u hu v hv=>by
 rcases p.clo u hu with h | h
 ·exact p.mono v (c u h v hv)
 ·exact h v hv
theorem visA_tot (hI:IxOK N N.length)(hB:∀ x ∈ N,x.keys.length≤B∧x.items.length≤B){k:Nat}(hk:N.length * (B+2)+1≤k):∀ (xs:List Int) (ms:List Bool),ms.length=N.length→(∀ v ∈ xs,IR N.length v)→Clo N ms →
  ∃ r,visA k N xs ms=some r∧r.length=ms.length∧Clo N r∧(∀ u,gt ms u=some true→gt r u=some true)∧∀ u ∈ xs,gt r u=some true
 | [],ms,hl,_,c=>⟨ms,rfl,rfl,c,fun _ h=>h,fun u hu=>(by cases hu)⟩
 | x::xs,ms,hl,hx,c=>by
  have hle:=cf_le ms
  rw [hl] at hle
  have:=Nat.mul_le_mul_right (B+2) hle
  obtain⟨m2,e2,p2⟩:=(vis_tot (n:=0) (W:=fun _ _=>True) hI hB (fun _ _ _ _ _=>trivial) k).1 x ms hl (hx x List.mem_cons_self) (by omega)
  obtain⟨r,e3,h1,h2,h3,h4⟩:=visA_tot hI hB hk xs m2 (by rw [p2.len,hl]) (fun v hv=>hx v (List.mem_cons_of_mem _ hv)) (clo_of p2 c)
  refine⟨r,by rw [visA,e2];exact e3,by rw [h1,p2.len],h2,fun u hu=>h3 u (p2.mono u hu),fun u hu=>?_⟩
  rcases List.mem_cons.1 hu with h | h
  ·exact h3 u (p2.at' u h)
  ·exact h4 u h
theorem inK_tot (hI:IxOK N N.length)(hB:∀ x ∈ N,x.keys.length≤B∧x.items.length≤B){k:Nat}(hk:N.length * (B+2)+1≤k):∀ (X:List NodeV) (ms:List Bool),(∀ x ∈ X,x ∈ N)→ms.length=N.length→Clo N ms →
  ∃ r,inK k N X ms=some r∧r.length=ms.length∧Clo N r∧(∀ u,gt ms u=some true→gt r u=some true)∧∀ x ∈ X,∀ u ∈ x.keys,gt r u=some true
 | [],ms,_,hl,c=>⟨ms,rfl,rfl,c,fun _ h=>h,fun x hx=>(by cases hx)⟩
 | x::X,ms,hX,hl,c=>by
  obtain⟨m2,e2,a1,a2,a3,a4⟩:=visA_tot hI hB hk x.keys ms hl (hI x (hX x List.mem_cons_self)).1 c
  obtain⟨r,e3,h1,h2,h3,h4⟩:=inK_tot hI hB hk X m2 (fun y hy=>hX y (List.mem_cons_of_mem _ hy)) (by rw [a1,hl]) a2
  refine⟨r,by rw [inK,e2];exact e3,by rw [h1,a1],h2,fun u hu=>h3 u (a3 u hu),fun y hy u hu=>?_⟩
  rcases List.mem_cons.1 hy with rfl | h
  ·exact h3 u (a4 u hu)
  ·exact h4 y h u hu
theorem gt_rep {m:Nat}{u:Int}{b:Bool}(h:gt (List.replicate m false) u=some b):b=false:=by
 have:=List.mem_of_getElem? (gt_some h).2
 exact (List.mem_replicate.1 this).2
theorem clo_rep {m:Nat}:Clo N (List.replicate m false):=fun u hu=>by have:=gt_rep hu;cases this
def CC (n:Nat)(l:List Int):List Int:=(List.range n).map fun j:Nat=>((l.count (j:Int):Nat):Int)
theorem CC_len {n:Nat}{l:List Int}:(CC n l).length=n:=by unfold CC;simp
theorem CC_gt {n:Nat}{l:List Int}{v:Int}(hv:IR n v):gt (CC n l) v=some ((l.count v:Nat):Int):=by
 obtain⟨h1,h2⟩:=hv
 unfold gt CC
 have hlt:v.toNat<n:=by omega
 rw [if_pos h1,List.getElem?_map,List.getElem?_range hlt,Option.map_some,show ((v.toNat:Nat):Int)=v by omega]
theorem bump_tot {n:Nat}{l:List Int}{v:Int}(hv:IR n v)(hl:l.length<4611686018427387904):bump (CC n l) v=some (CC n (l++[v])):=by
 unfold bump
 have hc:=List.count_le_length (a:=v) (l:=l)
 rw [CC_gt hv,Option.map_some,w64 (by omega) (by omega)]
 congr 1
 refine List.ext_getElem? fun j=>?_
 have hlt:v.toNat<n:=by have:=hv.1;have:=hv.2;omega
 by_cases hj:j=v.toNat
 ·subst hj
  rw [List.getElem?_set_self (by rw [CC_len];exact hlt)]
  unfold CC
  rw [List.getElem?_map,List.getElem?_range hlt,Option.map_some,show ((v.toNat:Nat):Int)=v by have:=hv.1;omega]
  simp
 ·rw [List.getElem?_set_ne (Ne.symm hj)]
  unfold CC
  rw [List.getElem?_map,List.getElem?_map]
  by_cases hjn:j<n
  ·rw [List.getElem?_range hjn,Option.map_some,Option.map_some]
   have:¬ (v == (j:Int))=true:=by simp;have:=hv.1;omega
   rw [List.count_append,List.count_singleton,if_neg this,Nat.add_zero]
  ·rw [List.getElem?_eq_none (by simp;omega)];rfl
theorem bumps_tot {n:Nat}:∀ {xs l:List Int},(∀ v ∈ xs,IR n v)→l.length+xs.length<4611686018427387904→bumps xs (CC n l)=some (CC n (l++xs))
 | [],l,_,_=>by simp [bumps]
 | x::xs,l,hx,hl=>by
  rw [List.length_cons] at hl
  rw [bumps,bump_tot (hx x List.mem_cons_self) (by omega),Option.bind_some,bumps_tot (fun v hv=>hx v (List.mem_cons_of_mem _ hv)) (by simp;omega)]
  simp
def refs (x:NodeV):List Int:=x.keys++x.items
theorem cnts_tot {n:Nat}:∀ {X:List NodeV} {l:List Int},IxOK X n→l.length+(X.flatMap refs).length<4611686018427387904→cnts X (CC n l)=some (CC n (l++X.flatMap refs))
 | [],l,_,_=>by simp [cnts]
 | x::X,l,hx,hl=>by
  rw [List.flatMap_cons,List.length_append] at hl
  have e:(refs x).length=x.keys.length+x.items.length:=by simp [refs]
  rw [cnts,bumps_tot (hx x List.mem_cons_self).1 (by omega),Option.bind_some,bumps_tot (hx x List.mem_cons_self).2 (by rw [List.length_append];omega),Option.bind_some,cnts_tot (fun y hy=>hx y (List.mem_cons_of_mem _ hy)) (by rw [List.length_append,List.length_append];omega)]
  simp [refs]
theorem refs_le {X:List NodeV}(hB:∀ x ∈ X,x.keys.length≤B∧x.items.length≤B):(X.flatMap refs).length≤X.length * (2 * B):=by
 induction X with
 | nil=>simp
 | cons x X ih =>
  have h1:=ih fun y hy=>hB y (List.mem_cons_of_mem _ hy)
  have h2:=hB x List.mem_cons_self
  rw [List.flatMap_cons,List.length_append,List.length_cons,Nat.add_mul]
  have e:(refs x).length=x.keys.length+x.items.length:=by simp [refs]
  omega
theorem cnt_tot {root:Int}(hI:IxOK N N.length)(hr:IR N.length root)(hB:∀ x ∈ N,x.keys.length≤B∧x.items.length≤B)(hN:N.length≤4096)(hB2:B<1073741824):cnt N root=some (CC N.length (root::N.flatMap refs)):=by
 unfold cnt
 have e:List.replicate N.length (0:Int)=CC N.length []:=by
  unfold CC
  refine List.ext_getElem? fun j=>?_
  rw [List.getElem?_map]
  by_cases hj:j<N.length
  ·rw [List.getElem?_range hj,List.getElem?_replicate,if_pos hj];simp
  ·rw [List.getElem?_eq_none (by simp;omega),List.getElem?_eq_none (by simp;omega)];rfl
 have h1:=refs_le hB
 have h2:N.length * (2 * B)≤4096 * (2 * 1073741824):=Nat.mul_le_mul hN (by omega)
 rw [e,bump_tot hr (by simp),Option.bind_some,cnts_tot hI (by rw [List.nil_append,List.length_singleton];omega)]
 rfl
end
end Go.Sh
set_option linter.all false
namespace Go.Sh
open Go Go.Ago Go.Proofs
variable {α β:Type}
inductive Wk (N:List NodeV) (root:Int):Nat→Int→Prop
 | root:Wk N root 0 root
 | step {t:Nat} {u v:Int}:Wk N root t u→Edge N u v→Wk N root (t+1) v
theorem least {p:Nat→Prop}:∀ t,p t→∃ t,p t∧∀ s,s<t→¬ p s:=by
 intro t
 induction t using Nat.strongRecOn with
 | ind t ih =>
  intro h
  by_cases hx:∃ s,s<t∧p s
  ·obtain⟨s,h1,h2⟩:=hx
   exact ih s h1 h2
  ·exact⟨t,h,fun s hs hp=>hx ⟨s,hs,hp⟩⟩
theorem cnt_one {v:Int}:∀ {X:List NodeV} {i:Nat} {x:NodeV},X[i]?=some x→v ∈ refs x→1≤(X.flatMap refs).count v
 | [],i,x,h,_=>by simp at h
 | y::X,0,x,h,hv=>by
  simp at h;subst h
  rw [List.flatMap_cons,List.count_append]
  have:=List.count_pos_iff.2 hv
  omega
 | y::X,i+1,x,h,hv=>by
  rw [List.flatMap_cons,List.count_append]
  have:=cnt_one (X:=X) (i:=i) (by simpa using h) hv
  omega
theorem cnt_two {v:Int}:∀ {X:List NodeV} {i j:Nat} {x y:NodeV},i<j→X[i]?=some x→X[j]?=some y→v ∈ refs x→v ∈ refs y→2≤(X.flatMap refs).count v
 | [],i,j,x,y,_,h,_,_,_=>by simp at h
 | z::X,0,j+1,x,y,_,h,h2,hx,hy=>by
  simp at h;subst h
  rw [List.flatMap_cons,List.count_append]
  have h1:=List.count_pos_iff.2 hx
  have h3:=cnt_one (X:=X) (i:=j) (by simpa using h2) hy
  omega
 | z::X,i+1,j+1,x,y,hij,h,h2,hx,hy=>by
  rw [List.flatMap_cons,List.count_append]
  have:=cnt_two (X:=X) (i:=i) (j:=j) (by omega) (by simpa using h) (by simpa using h2) hx hy
  omega
theorem edge_refs {N:List NodeV}{u v:Int}(e:Edge N u v):∃ x,0≤u∧N[u.toNat]?=some x∧v ∈ refs x:=by
 obtain⟨x,hx,hv⟩:=e
 obtain⟨h1,h2⟩:=gt_some hx
 exact⟨x,h1,h2,by unfold refs;exact List.mem_append.2 hv⟩
theorem one_ref {N:List NodeV}{root v:Int}(hc:(root::N.flatMap refs).count v=1){u:Int}(e:Edge N u v):v≠root∧∀ u',Edge N u' v→u'=u:=by
 obtain⟨x,h1,h2,h3⟩:=edge_refs e
 have ho:=cnt_one h2 h3
 rw [List.count_cons] at hc
 refine⟨fun hvr=>?_,fun u' e'=>?_⟩
 ·subst hvr
  rw [if_pos (by simp)] at hc;omega
 ·obtain⟨y,g1,g2,g3⟩:=edge_refs e'
  by_cases hlt:u'.toNat<u.toNat
  ·have:=cnt_two hlt g2 h2 g3 h3;omega
  by_cases hgt:u.toNat<u'.toNat
  ·have:=cnt_two hgt h2 g2 h3 g3;omega
  omega
theorem ranks {N:List NodeV}{n:Nat}{root:Int}{K:Int→Prop}(hI:IxOK N n)(hn:N.length=n)(hW:∀ v,IR n v→∃ s,s<n∧Wk N root s v)(hK:∀ v,K v→IR n v→(root::N.flatMap refs).count v=1) :
  ∃ H:Int→Nat,(∀ u,H u≤n)∧∀ u v,K v→Edge N u v→H v<H u:=by
 have hex:∀ v,∃ d,IR n v→Wk N root d v∧∀ s,s<d→¬ Wk N root s v:=fun v=>by
  by_cases hv:IR n v
  ·obtain⟨s,_,h⟩:=hW v hv
   obtain⟨t,h1,h2⟩:=least (p:=fun t=>Wk N root t v) s h
   exact⟨t,fun _=>⟨h1,h2⟩⟩
  ·exact⟨0,fun h=>absurd h hv⟩
 obtain⟨D,hD⟩:=Classical.axiomOfChoice hex
 refine⟨fun v=>n - D v,fun u=>Nat.sub_le _ _,fun u v hkv e=>?_⟩
 have hu:IR n u:=by obtain⟨x,hx,_⟩:=e;have:=ir_gt hx;rwa [hn] at this
 have hv:IR n v:=by
  obtain⟨x,hx,hm⟩:=e
  rcases hm with h | h
  ·exact (hI x (gt_mem hx)).1 v h
  ·exact (hI x (gt_mem hx)).2 v h
 obtain⟨s,hs,hws⟩:=hW v hv
 have hDv:=hD v hv
 have hDu:=hD u hu
 have hlt:D v<n:=by
  refine Nat.lt_of_le_of_lt (Nat.le_of_not_lt fun h=>hDv.2 s h hws) hs
 obtain⟨hroot,huniq⟩:=one_ref (hK v hkv hv) e
 have key:D u+1≤D v:=by
  have hw:=hDv.1
  generalize D v=d at hw
  cases hw with
  | root=>exact absurd rfl hroot
  | step hwt e' =>
   rename_i t u'
   have:=huniq u' e'
   subst this
   have:=Nat.le_of_not_lt fun h=>hDu.2 t h hwt
   omega
 show n - D v<n - D u
 omega
section
variable {N:List NodeV}{B:Nat}{K:Int→Prop}{H:Int→Nat}
def MapOK (x:NodeV):Prop:=x.kind=10→x.keys.length=x.items.length
structure Chd (K:Int→Prop) (H:Int→Nat) (h:Nat) (v:Int):Prop where
 k:K v
 lt:H v<h
theorem same_tot (hI:IxOK N N.length)(hB:∀ x ∈ N,x.keys.length≤B∧x.items.length≤B)(hM:∀ x ∈ N,MapOK x)(hKr:∀ v,K v→IR N.length v)(hKc:∀ u v,K u→Edge N u v→K v)(hH:∀ u v,K v→Edge N u v→H v<H u):∀ k,
  (∀ i j h,K i→IR N.length j→H i≤h→(h+1) * (2 * B+5)≤k→∃ r,same k N i j=some r) ∧
  (∀ x y i h,x ∈ N→y ∈ N→(∀ v ∈ x.keys,Chd K H h v)→(∀ v ∈ x.items,Chd K H h v)→x.kind=10→y.kind=10→(x.keys.length - i)+1+(B+1)+h * (2 * B+5)≤k→∃ r,sameM k N x y i=some r) ∧
  (∀ x y i kx j b h,x ∈ N→y ∈ N→Chd K H h kx→(∀ v ∈ x.items,Chd K H h v)→x.kind=10→y.kind=10→i<x.keys.length→(y.keys.length - j)+1+h * (2 * B+5)≤k→∃ r,sameF k N x y i kx j b=some r) ∧
  (∀ x y i h,x ∈ N→y ∈ N→(∀ v ∈ x.keys,Chd K H h v)→(∀ v ∈ x.items,Chd K H h v)→x.kind=y.kind→x.items.length=y.items.length→(x.items.length - i)+1+h * (2 * B+5)≤k→∃ r,sameI k N x y i=some r):=by
 intro k
 induction k with
 | zero=>exact⟨fun i j h _ _ _ hk=>by rw [Nat.add_mul] at hk;omega,fun x y i h _ _ _ _ _ _ hk=>by omega,fun x y i kx j b h _ _ _ _ _ _ _ hk=>by omega,fun x y i h _ _ _ _ _ _ hk=>by omega⟩
 | succ k ih =>
  have chd:∀ {h:Nat} {v w:Int},Chd K H h v→IR N.length w→h * (2 * B+5)≤k→∃ r,same k N v w=some r:=fun {h v w} c hw hk=>by
   obtain⟨h1,h2⟩:=c
   cases h with
   | zero=>omega
   | succ h=>exact ih.1 v w h h1 hw (by omega) hk
  refine⟨fun i j h hi hj hh hk=>?_,fun x y i h hx hy h1 h2 hkx hky hk=>?_,fun x y i kx j b h hx hy h1 h2 hkx hky hik hk=>?_,fun x y i h hx hy h1 h2 hkk hll hk=>?_⟩
  ·rw [same]
   obtain⟨x,hx⟩:=gt_ir (l:=N) rfl (hKr i hi)
   obtain⟨y,hy⟩:=gt_ir (l:=N) rfl hj
   rw [hx,hy]
   simp only
   have hxm:=gt_mem hx
   have hym:=gt_mem hy
   have hbx:=hB x hxm
   have hby:=hB y hym
   rw [Nat.add_mul] at hk
   have ck:∀ v ∈ x.keys,Chd K H h v:=fun v hv=>by
    have e:Edge N i v:=⟨x,hx,.inl hv⟩
    have hkv:=hKc i v hi e
    exact⟨hkv,by have:=hH i v hkv e;omega⟩
   have ci:∀ v ∈ x.items,Chd K H h v:=fun v hv=>by
    have e:Edge N i v:=⟨x,hx,.inr hv⟩
    have hkv:=hKc i v hi e
    exact⟨hkv,by have:=hH i v hkv e;omega⟩
   split
   ·exact⟨_,rfl⟩
   rename_i hkk
   split
   ·exact⟨_,rfl⟩
   split
   ·exact⟨_,rfl⟩
   split
   ·exact⟨_,rfl⟩
   rename_i hll
   have hkk:x.kind=y.kind:=Decidable.of_not_not hkk
   have hll:x.items.length=y.items.length:=Decidable.of_not_not hll
   split
   ·rename_i h10
    exact ih.2.1 x y 0 h hxm hym ck ci h10.1 (by rw [← hkk];exact h10.1) (by omega)
   ·exact ih.2.2.2 x y 0 h hxm hym ck ci hkk hll (by omega)
  ·rw [sameM]
   cases hki:x.keys[i]? with
   | none=>exact⟨_,rfl⟩
   | some kx =>
    have hlt:=(List.getElem?_eq_some_iff.1 hki).1
    have hby:=hB y hy
    obtain⟨r,hr⟩:=ih.2.2.1 x y i kx 0 false h hx hy (h1 kx (List.mem_of_getElem? hki)) h2 hkx hky hlt (by omega)
    simp only
    rw [hr]
    cases r with
    | false=>exact⟨_,rfl⟩
    | true=>exact ih.2.1 x y (i+1) h hx hy h1 h2 hkx hky (by omega)
  ·rw [sameF]
   cases hkj:y.keys[j]? with
   | none=>exact⟨_,rfl⟩
   | some ky =>
    have hlt:=(List.getElem?_eq_some_iff.1 hkj).1
    cases b with
    | true=>exact ih.2.2.1 x y i kx (j+1) true h hx hy h1 h2 hkx hky hik (by omega)
    | false =>
     obtain⟨r,hr⟩:=chd (w:=ky) h1 ((hI y hy).1 ky (List.mem_of_getElem? hkj)) (by omega)
     simp only
     rw [hr]
     cases r with
     | false=>exact ih.2.2.1 x y i kx (j+1) false h hx hy h1 h2 hkx hky hik (by omega)
     | true =>
      have ex:=hM x hx hkx
      have ey:=hM y hy hky
      obtain⟨p,hp⟩:=getI (l:=x.items) (i:=i) (by omega)
      obtain⟨q,hq⟩:=getI (l:=y.items) (i:=j) (by omega)
      obtain⟨r2,hr2⟩:=chd (w:=q) (h2 p (List.mem_of_getElem? hp)) ((hI y hy).2 q (List.mem_of_getElem? hq)) (by omega)
      simp only [hp,hq,hr2]
      exact ih.2.2.1 x y i kx (j+1) r2 h hx hy h1 h2 hkx hky hik (by omega)
  ·rw [sameI]
   cases hpi:x.items[i]? with
   | none=>exact⟨_,rfl⟩
   | some p =>
    have hlt:=(List.getElem?_eq_some_iff.1 hpi).1
    obtain⟨q,hq⟩:=getI (l:=y.items) (i:=i) (by omega)
    simp only [hq]
    obtain⟨r2,hr2⟩:=chd (w:=q) (h2 p (List.mem_of_getElem? hpi)) ((hI y hy).2 q (List.mem_of_getElem? hq)) (by omega)
    split
    ·rename_i h10
     have ex:=hM x hx h10
     have ey:=hM y hy (by rw [← hkk];exact h10)
     obtain⟨kx,hkx⟩:=getI (l:=x.keys) (i:=i) (by omega)
     obtain⟨ky,hky⟩:=getI (l:=y.keys) (i:=i) (by omega)
     obtain⟨r1,hr1⟩:=chd (w:=ky) (h1 kx (List.mem_of_getElem? hkx)) ((hI y hy).1 ky (List.mem_of_getElem? hky)) (by omega)
     simp only [hkx,hky,hr1,hr2]
     cases r1 with
     | false=>exact⟨_,rfl⟩
     | true =>
      cases r2 with
      | false=>exact⟨_,rfl⟩
      | true=>exact ih.2.2.2 x y (i+1) h hx hy h1 h2 hkk hll (by omega)
    ·simp only [hr2]
     cases r2 with
     | false=>exact⟨_,rfl⟩
     | true=>exact ih.2.2.2 x y (i+1) h hx hy h1 h2 hkk hll (by omega)
theorem twC_tot {k:Nat}{x:Int}:∀ {ys:List Int},(∀ y ∈ ys,∃ r,same k N x y=some r)→∃ r,twC k N x ys=some r
 | [],_=>⟨_,rfl⟩
 | y::ys,h=>by
  obtain⟨r,hr⟩:=h y List.mem_cons_self
  rw [twC,hr]
  cases r with
  | true=>exact⟨_,rfl⟩
  | false=>exact twC_tot fun z hz=>h z (List.mem_cons_of_mem _ hz)
theorem twK_tot {k:Nat}{P:Int→Prop}(hP:∀ v,P v→IR N.length v)(hs:∀ x y,P x→P y→∃ r,same k N x y=some r):∀ {xs met:List Int},(∀ v ∈ xs,P v)→(∀ v ∈ met,P v)→∃ r,twK k N met xs=some r
 | [],met,_,_=>⟨_,rfl⟩
 | x::xs,met,h1,h2=>by
  have hx:=h1 x List.mem_cons_self
  obtain⟨n,hn⟩:=gt_ir (l:=N) rfl (hP x hx)
  obtain⟨r,hr⟩:=twC_tot (N:=N) (k:=k) (x:=x) (ys:=met.filter (isKey N n.kind n.text)) fun y hy=>hs x y hx (h2 y (List.mem_filter.1 hy).1)
  rw [twK,hn]
  simp only [hr]
  cases r with
  | true=>exact⟨_,rfl⟩
  | false =>
   refine twK_tot hP hs (fun v hv=>h1 v (List.mem_cons_of_mem _ hv)) fun v hv=>?_
   rcases List.mem_append.1 hv with h | h
   ·exact h2 v h
   ·rw [List.mem_singleton.1 h];exact hx
theorem twN_tot {k:Nat}{P:Int→Prop}(hP:∀ v,P v→IR N.length v)(hs:∀ x y,P x→P y→∃ r,same k N x y=some r):∀ {X:List NodeV},(∀ x ∈ X,∀ v ∈ x.keys,P v)→∃ r,twN k N X=some r
 | [],_=>⟨_,rfl⟩
 | x::X,h=>by
  obtain⟨r,hr⟩:=twK_tot hP hs (met:=[]) (h x List.mem_cons_self) (fun v hv=>(by cases hv))
  rw [twN,hr]
  cases r with
  | true=>exact⟨_,rfl⟩
  | false=>exact twN_tot hP hs fun y hy=>h y (List.mem_cons_of_mem _ hy)
end
end Go.Sh
set_option linter.all false
namespace Go.Sh
open Go Go.Ago Go.Proofs
variable {α β:Type}
def zc (l:List Int):Nat:=l.count 0
theorem zc_set:∀ {l:List Int} {i:Nat} {v:Int},l[i]?=some 0→v≠0→zc (l.set i v)+1=zc l
 | [],i,v,h,_=>by simp at h
 | m::ms,0,v,h,hv=>by
  simp at h;subst h
  unfold zc
  rw [List.set_cons_zero,List.count_cons,List.count_cons,if_neg (by simpa using hv),if_pos (by simp)]
 | m::ms,i+1,v,h,hv=>by
  have:=zc_set (l:=ms) (i:=i) (by simpa using h) hv
  unfold zc at this ⊢
  rw [List.set_cons_succ,List.count_cons,List.count_cons];omega
structure TI (N:List NodeV) (A:Int→Prop) (st:TS):Prop where
 lix:st.ix.length=N.length
 llo:st.lo.length=N.length
 lnn:st.nn.length=N.length
 lon:st.on.length=N.length
 nx:st.next=((N.length - zc st.ix:Nat):Int)
 zle:zc st.ix≤N.length
 pos:∀ u i,gt st.ix u=some i→0≤i
 low:∀ u i,gt st.ix u=some i→i≠0→∃ l,gt st.lo u=some l∧1≤l∧l≤i
 stk:∀ u ∈ st.stk,∃ i,gt st.ix u=some i∧i≠0
 nd:st.stk.Nodup
 cnt:st.stk.length+st.szs.length≤N.length - zc st.ix
 nnv:∀ u i,gt st.ix u=some i→i≠0→u ∈ st.stk∨∃ c,gt st.nn u=some c∧0≤c∧c<(st.szs.length:Int)
 clo:∀ u i,gt st.ix u=some i→i≠0→A u∨∀ v,Edge N u v→∃ j,gt st.ix v=some j∧j≠0
structure TP (st st':TS):Prop where
 ix:∀ u i,gt st.ix u=some i→i≠0→gt st'.ix u=some i
 stk:∃ e,st'.stk=st.stk++e
 szs:st.szs.length≤st'.szs.length
 z:zc st'.ix≤zc st.ix
theorem TP.refl (st:TS):TP st st:=⟨fun _ _ h _=>h,⟨[],by simp⟩,Nat.le_refl _,Nat.le_refl _⟩
theorem TP.trans {a b c:TS}(p:TP a b)(q:TP b c):TP a c:=by
 obtain⟨e,he⟩:=p.stk
 obtain⟨f,hf⟩:=q.stk
 exact⟨fun u i h h0=>q.ix u i (p.ix u i h h0) h0,⟨e++f,by rw [hf,he,List.append_assoc]⟩,Nat.le_trans p.szs q.szs,Nat.le_trans q.z p.z⟩
def Vis (st:TS)(u:Int):Prop:=∃ i,gt st.ix u=some i∧i≠0
theorem TP.vis {a b:TS}(p:TP a b){u:Int}(h:Vis a u):Vis b u:=let ⟨i,h1,h2⟩:=h;⟨i,p.ix u i h1 h2,h2⟩
section
variable {N:List NodeV}{B:Nat}{A:Int→Prop}{st:TS}
theorem push_tot (t:TI N A st){a:Int}(ha:IR N.length a)(h0:gt st.ix a=some 0)(hb:N.length≤4096):∃ st',tPush a st=some st'∧TI N (fun u=>A u∨u=a) st'∧TP st st'∧st'.stk=st.stk++[a]∧zc st'.ix+1=zc st.ix∧gt st'.ix a=some ((N.length - zc st.ix+1:Nat):Int)∧st'.szs=st.szs:=by
 obtain⟨b,hon⟩:=gt_ir t.lon ha
 obtain⟨l,hlo⟩:=gt_ir t.llo ha
 have hz:1≤zc st.ix:=List.count_pos_iff.2 (List.mem_of_getElem? (gt_some h0).2)
 have hzl:=t.zle
 have hct:=t.cnt
 have hw:IntKind.i64.wrap (st.next+1)=((N.length - zc st.ix+1:Nat):Int):=by
  rw [t.nx,w64 (by omega) (by omega)];omega
 have h2:=(gt_some h0).2
 have hzs:=zc_set (v:=((N.length - zc st.ix+1:Nat):Int)) h2 (by omega)
 have hax:IR st.ix.length a:=by rw [t.lix];exact ha
 have hal:IR st.lo.length a:=by rw [t.llo];exact ha
 refine⟨{ st with next:=IntKind.i64.wrap (st.next+1),ix:=st.ix.set a.toNat (IntKind.i64.wrap (st.next+1)),lo:=st.lo.set a.toNat (IntKind.i64.wrap (st.next+1)),stk:=st.stk++[a],on:=st.on.set a.toNat true },?_,?_,?_,rfl,?_,?_,rfl⟩
 ·unfold tPush
  rw [if_pos ⟨by unfold bigN;omega,by unfold bigN;omega,by rw [h0];rfl,by rw [hlo];rfl,by rw [hon];rfl⟩]
 ·have hna:a ∉ st.stk:=fun hm=>by obtain⟨i,h3,h4⟩:=t.stk a hm;rw [h0] at h3;cases h3;exact h4 rfl
  refine⟨by simpa using t.lix,by simpa using t.llo,t.lnn,by simpa using t.lon,?_,?_,?_,?_,?_,?_,?_,?_,?_⟩
  ·show IntKind.i64.wrap (st.next+1)=((N.length - zc (st.ix.set a.toNat _):Nat):Int)
   rw [hw];omega
  ·show zc (st.ix.set a.toNat _)≤_
   rw [hw];omega
  ·intro u i hi
   simp only at hi
   rw [gt_set hax] at hi
   split at hi
   ·cases hi;rw [hw];omega
   ·exact t.pos u i hi
  ·intro u i hi hi0
   simp only at hi ⊢
   rw [gt_set hax] at hi
   rw [gt_set hal]
   split
   ·rename_i hu
    rw [if_pos hu] at hi;cases hi
    exact⟨_,rfl,by rw [hw];omega,Int.le_refl _⟩
   ·rename_i hu
    rw [if_neg hu] at hi
    exact t.low u i hi hi0
  ·intro u hu
   simp only at hu ⊢
   rw [gt_set hax]
   split
   ·exact⟨_,rfl,by rw [hw];omega⟩
   ·rename_i hne
    rcases List.mem_append.1 hu with h | h
    ·exact t.stk u h
    ·exact absurd (List.mem_singleton.1 h) hne
  ·exact List.nodup_append.2 ⟨t.nd,by simp,fun x hx y hy he=>by rw [List.mem_singleton.1 hy] at he;rw [he] at hx;exact hna hx⟩
  ·show (st.stk++[a]).length+st.szs.length≤N.length - zc (st.ix.set a.toNat _)
   rw [List.length_append,List.length_singleton,hw];omega
  ·intro u i hi hi0
   simp only at hi ⊢
   rw [gt_set hax] at hi
   split at hi
   ·rename_i hu
    exact .inl (List.mem_append.2 (.inr (by rw [hu];simp)))
   ·exact (t.nnv u i hi hi0).imp (fun h=>List.mem_append.2 (.inl h)) id
  ·intro u i hi hi0
   simp only at hi ⊢
   rw [gt_set hax] at hi
   split at hi
   ·rename_i hu;exact .inl (.inr hu)
   ·rcases t.clo u i hi hi0 with h | h
    ·exact .inl (.inl h)
    ·refine .inr fun v hv=>?_
     obtain⟨j,hj,hj0⟩:=h v hv
     rw [gt_set hax]
     split
     ·exact⟨_,rfl,by rw [hw];omega⟩
     ·exact⟨j,hj,hj0⟩
 ·refine⟨fun u i hi hi0=>?_,⟨[a],rfl⟩,Nat.le_refl _,?_⟩
  ·show gt (st.ix.set a.toNat _) u=some i
   rw [gt_set hax,if_neg (fun hu=>by rw [hu,h0] at hi;cases hi;exact hi0 rfl)];exact hi
  ·show zc (st.ix.set a.toNat _)≤_
   rw [hw];omega
 ·show zc (st.ix.set a.toNat _)+1=_
  rw [hw];exact hzs
 ·show gt (st.ix.set a.toNat _) a=_
  rw [gt_set hax,if_pos rfl,hw]
theorem low_tot (t:TI N A st){a v:Int}(ha:Vis st a)(hv:1≤v):∃ st',tLow a v st=some st'∧TI N A st'∧TP st st'∧st'.stk=st.stk∧st'.ix=st.ix:=by
 obtain⟨i,hi,hi0⟩:=ha
 obtain⟨l,hl,hl1,hl2⟩:=t.low a i hi hi0
 have hal:IR st.lo.length a:=ir_gt hl
 refine⟨{ st with lo:=st.lo.set a.toNat (mn l v) },by unfold tLow;rw [hl],⟨t.lix,by simpa using t.llo,t.lnn,t.lon,t.nx,t.zle,t.pos,fun u j hj hj0=>?_,t.stk,t.nd,t.cnt,t.nnv,t.clo⟩,⟨fun _ _ h _=>h,⟨[],by simp⟩,Nat.le_refl _,Nat.le_refl _⟩,rfl,rfl⟩
 simp only
 rw [gt_set hal]
 split
 ·rename_i hu
  simp only at hj
  rw [hu,hi] at hj;cases hj
  refine⟨_,rfl,?_,?_⟩ <;> (unfold mn;split <;> omega)
 ·exact t.low u j hj hj0
def popS (st:TS)(x:Int)(l:List Int):TS:={ st with stk:=l,on:=st.on.set x.toNat false,nn:=st.nn.set x.toNat (st.szs.length:Int) }
theorem tp_step {k:Nat}{a c x:Int}{l:List Int}(hs:st.stk=l++[x])(h1:IR st.on.length x)(h2:IR st.nn.length x)(hb:st.stk.length≤bigN) :
  tp (k+1) a st c=if x=a then some (popS st x l,IntKind.i64.wrap (c+1)) else tp k a (popS st x l) (IntKind.i64.wrap (c+1)):=by
 obtain⟨o,ho⟩:=gt_ir (l:=st.on) rfl h1
 obtain⟨q,hq⟩:=gt_ir (l:=st.nn) rfl h2
 have e1:st.stk.getLast?=some x:=by rw [hs];exact List.getLast?_concat
 have e2:st.stk.dropLast=l:=by rw [hs];exact List.dropLast_concat
 rw [tp,e1]
 simp only
 rw [if_pos ⟨by rw [ho];rfl,by rw [hq];rfl,hb⟩,e2]
 rfl
theorem tp_tot {a:Int}{pre:List Int}:∀ (m k:Nat) (ext:List Int) (st:TS) (c:Int),ext.length=m→st.stk=pre++a::ext→a ∉ ext→m+1≤k→(∀ u ∈ st.stk,IR st.on.length u∧IR st.nn.length u)→st.stk.length≤bigN →
  ∃ st' d,tp k a st c=some (st',d)∧st'.stk=pre∧st'.ix=st.ix∧st'.lo=st.lo∧st'.next=st.next∧st'.szs=st.szs∧st'.on.length=st.on.length∧st'.nn.length=st.nn.length ∧
   (∀ u,u ∈ a::ext→gt st'.nn u=some (st.szs.length:Int))∧∀ u,u ∉ a::ext→gt st'.nn u=gt st.nn u:=by
 intro m
 induction m with
 | zero =>
  intro k ext st c hm hs ha hk hr hb
  have he:ext=[]:=List.eq_nil_of_length_eq_zero hm
  subst he
  obtain⟨k,rfl⟩:∃ j,k=j+1:=⟨k - 1,by omega⟩
  have hra:=hr a (by rw [hs];simp)
  refine⟨popS st a pre,IntKind.i64.wrap (c+1),by rw [tp_step hs hra.1 hra.2 hb,if_pos rfl],rfl,rfl,rfl,rfl,rfl,by simp [popS],by simp [popS],fun u hu=>?_,fun u hu=>?_⟩
  ·show gt (st.nn.set a.toNat _) u=_
   rw [gt_set hra.2,if_pos (by simpa using hu)]
  ·show gt (st.nn.set a.toNat _) u=_
   rw [gt_set hra.2,if_neg (by simpa using hu)]
 | succ m ih =>
  intro k ext st c hm hs ha hk hr hb
  obtain⟨k,rfl⟩:∃ j,k=j+1:=⟨k - 1,by omega⟩
  have hne:ext≠[]:=fun h=>by rw [h] at hm;cases hm
  obtain⟨e2,x,rfl⟩:∃ e2 x,ext=e2++[x]:=⟨ext.dropLast,ext.getLast hne,(List.dropLast_concat_getLast hne).symm⟩
  have hxa:x≠a:=fun h=>ha (by rw [h];simp)
  have hs3:st.stk=(pre++a::e2)++[x]:=by rw [hs];simp
  have hrx:=hr x (by rw [hs3];simp)
  obtain⟨st',d,h1,h2,h3,h4,h5,h6,h7,h8,h9,h10⟩:=ih k e2 (popS st x (pre++a::e2)) (IntKind.i64.wrap (c+1)) (by simpa using hm) rfl (fun h=>ha (by simp [h])) (by omega) (fun u hu=>by
   have:=hr u (by rw [hs3];exact List.mem_append.2 (.inl hu))
   simpa [popS] using this) (by
   rw [hs3,List.length_append] at hb
   exact Nat.le_trans (Nat.le_add_right _ _) hb)
  refine⟨st',d,by rw [tp_step hs3 hrx.1 hrx.2 hb,if_neg hxa];exact h1,h2,h3,h4,h5,h6,by rw [h7];simp [popS],by rw [h8];simp [popS],fun u hu=>?_,fun u hu=>?_⟩
  ·by_cases hm2:u ∈ a::e2
   ·exact h9 u hm2
   ·rw [h10 u hm2]
    show gt (st.nn.set x.toNat _) u=_
    rw [gt_set hrx.2,if_pos]
    simp at hu hm2
    rcases hu with h | h | h
    ·exact absurd h hm2.1
    ·exact absurd h hm2.2
    ·exact h
  ·rw [h10 u (fun h=>hu (by simp at h ⊢;rcases h with h | h;exact .inl h;exact .inr (.inl h)))]
   show gt (st.nn.set x.toNat _) u=_
   rw [gt_set hrx.2,if_neg (fun h=>hu (by simp [h]))]
theorem TI.weak {a:Int}(t:TI N (fun u=>A u∨u=a) st)(h:∀ v,Edge N a v→Vis st v):TI N A st :=
 ⟨t.lix,t.llo,t.lnn,t.lon,t.nx,t.zle,t.pos,t.low,t.stk,t.nd,t.cnt,t.nnv,fun u i hi hi0=>by
  rcases t.clo u i hi hi0 with (h1 | h1) | h1
  ·exact .inl h1
  ·exact .inr fun v hv=>h v (by rw [← h1];exact hv)
  ·exact .inr h1⟩
theorem comp_step {a:Int}{pre ext:List Int}{st':TS}{n:Int}(t:TI N A st)(hs:st.stk=pre++a::ext)(h2:st'.stk=pre)(h3:st'.ix=st.ix)(h4:st'.lo=st.lo)(h5:st'.next=st.next)(h6:st'.szs=st.szs)(h7:st'.on.length=st.on.length)(h8:st'.nn.length=st.nn.length)
  (h9:∀ u,u ∈ a::ext→gt st'.nn u=some (st.szs.length:Int)) (h10:∀ u,u ∉ a::ext→gt st'.nn u=gt st.nn u):TI N A { st' with szs:=st'.szs++[n] }:=by
 have hnd:=t.nd
 rw [hs] at hnd
 refine⟨by simp only;rw [h3];exact t.lix,by simp only;rw [h4];exact t.llo,by simp only;rw [h8];exact t.lnn,by simp only;rw [h7];exact t.lon,by simp only;rw [h5,h3];exact t.nx,by simp only;rw [h3];exact t.zle,?_,?_,?_,?_,?_,?_,?_⟩
 ·intro u i hi;simp only at hi;rw [h3] at hi;exact t.pos u i hi
 ·intro u i hi hi0;simp only at hi ⊢;rw [h3] at hi;rw [h4];exact t.low u i hi hi0
 ·intro u hu;simp only at hu ⊢;rw [h2] at hu;rw [h3];exact t.stk u (by rw [hs];exact List.mem_append.2 (.inl hu))
 ·simp only;rw [h2];exact (List.nodup_append.1 hnd).1
 ·have:=t.cnt
  simp only
  rw [h2,h3,h6,List.length_append,List.length_singleton]
  rw [hs,List.length_append,List.length_cons] at this
  omega
 ·intro u i hi hi0
  simp only at hi ⊢
  rw [h3] at hi
  rw [h2,h6,List.length_append,List.length_singleton]
  by_cases hu:u ∈ a::ext
  ·exact .inr ⟨_,h9 u hu,by omega,by omega⟩
  ·rcases t.nnv u i hi hi0 with h | ⟨c,h,g1,g2⟩
   ·rw [hs] at h
    exact .inl ((List.mem_append.1 h).resolve_right hu)
   ·exact .inr ⟨c,by rw [h10 u hu];exact h,g1,by omega⟩
 ·intro u i hi hi0
  simp only at hi ⊢
  rw [h3] at hi ⊢
  exact t.clo u i hi hi0
theorem tv_tot (hI:IxOK N N.length)(hB:∀ x ∈ N,x.keys.length≤B∧x.items.length≤B)(hb:N.length≤4096)(hnB:N.length≤B):∀ k,
  (∀ a A st,TI N A st→IR N.length a→gt st.ix a=some 0→zc st.ix * (2 * B+8)≤k→∃ st',tv k N a st=some st'∧TI N A st'∧TP st st'∧Vis st' a∧(zc st.ix=N.length→st'.stk=st.stk)) ∧
  (∀ xs a A st,TI N A st→Vis st a→(∀ x ∈ xs,IR N.length x)→xs.length+2+zc st.ix * (2 * B+8)≤k→∃ st',tl k N a xs st=some st'∧TI N A st'∧TP st st'∧∀ x ∈ xs,Vis st' x) ∧
  (∀ x a A st,TI N A st→Vis st a→IR N.length x→1+zc st.ix * (2 * B+8)≤k→∃ st',ts k N a x st=some st'∧TI N A st'∧TP st st'∧Vis st' x):=by
 intro k
 induction k with
 | zero =>
  refine⟨fun a A st t ha h0 hk=>?_,fun xs a A st _ _ _ hk=>by omega,fun x a A st _ _ _ hk=>by omega⟩
  have hz:1≤zc st.ix:=List.count_pos_iff.2 (List.mem_of_getElem? (gt_some h0).2)
  have:=Nat.mul_le_mul_right (2 * B+8) hz
  omega
 | succ k ih =>
  refine⟨fun a A st t ha h0 hk=>?_,fun xs a A st t hva hx hk=>?_,fun x a A st t hva hx hk=>?_⟩
  ·obtain⟨st1,e1,t1,p1,s1,z1,i1,c1⟩:=push_tot t ha h0 hb
   have hv1:Vis st1 a:=⟨_,i1,by omega⟩
   rw [tv,e1]
   obtain⟨x,hx⟩:=gt_ir (l:=N) rfl ha
   simp only [hx]
   have hxm:=gt_mem hx
   have hbx:=hB x hxm
   have hmul:zc st1.ix * (2 * B+8)+(2 * B+8)=zc st.ix * (2 * B+8):=by rw [← z1,Nat.add_mul,Nat.one_mul]
   obtain⟨st2,e2,t2,p2,v2⟩:=ih.2.1 x.keys a _ st1 t1 hv1 (hI x hxm).1 (by omega)
   have hm2:=Nat.mul_le_mul_right (2 * B+8) p2.z
   obtain⟨st3,e3,t3,p3,v3⟩:=ih.2.1 x.items a _ st2 t2 (p2.vis hv1) (hI x hxm).2 (by omega)
   rw [e2]
   simp only [e3]
   have hv3:Vis st3 a:=p3.vis (p2.vis hv1)
   have i3:gt st3.ix a=some ((N.length - zc st.ix+1:Nat):Int):=p3.ix _ _ (p2.ix _ _ i1 (by omega)) (by omega)
   obtain⟨l,hl,hl1,hl2⟩:=t3.low a _ i3 (by omega)
   rw [hl,i3]
   simp only
   have t3':TI N A st3:=t3.weak fun v hv=>by
    obtain⟨y,hy,hv⟩:=hv
    rw [hx] at hy;cases hy
    rcases hv with h | h
    ·exact p3.vis (v2 v h)
    ·exact v3 v h
   have p13:=p1.trans (p2.trans p3)
   by_cases hne:l≠((N.length - zc st.ix+1:Nat):Int)
   ·rw [if_pos hne]
    exact⟨st3,rfl,t3',p13,hv3,fun hz=>by rw [hz] at hl2 hne;omega⟩
   rw [if_neg hne]
   obtain⟨f2,hf2⟩:=p2.stk
   obtain⟨f3,hf3⟩:=p3.stk
   have hs3:st3.stk=st.stk++a::(f2++f3):=by rw [hf3,hf2,s1];simp
   have hnd:=t3.nd
   rw [hs3] at hnd
   have hna:a ∉ f2++f3:=(List.nodup_cons.1 (List.nodup_append.1 hnd).2.1).1
   have hct:=t3.cnt
   have hlen:st3.stk.length≤N.length:=by omega
   have hz:=List.count_pos_iff.2 (List.mem_of_getElem? (gt_some h0).2)
   have hz:1≤zc st.ix:=hz
   have hz2:=Nat.mul_le_mul_right (2 * B+8) hz
   have hle:(f2++f3).length+1≤N.length:=by rw [hs3,List.length_append,List.length_cons] at hlen;omega
   obtain⟨st4,d,e4,g2,g3,g4,g5,g6,g7,g8,g9,g10⟩:=tp_tot (f2++f3).length k (f2++f3) st3 0 rfl hs3 hna (by omega) (fun u hu=>by
    obtain⟨i,hi,_⟩:=t3.stk u hu
    have:=ir_gt hi
    rw [t3.lix] at this
    rw [t3.lon,t3.lnn];exact⟨this,this⟩) (by unfold bigN;omega)
   rw [e4]
   simp only
   rw [if_pos (by rw [g6];unfold bigN;omega)]
   refine⟨_,rfl,comp_step t3' hs3 g2 g3 g4 g5 g6 g7 g8 g9 g10,⟨fun u i hi hi0=>by simp only;rw [g3];exact p13.ix u i hi hi0,⟨[],by simp only;rw [g2];simp⟩,by simp only;rw [g6];have:=p13.szs;simp;omega,by simp only;rw [g3];exact p13.z⟩,?_,fun _=>g2⟩
   obtain⟨i,hi,hi0⟩:=hv3
   exact⟨i,by simp only;rw [g3];exact hi,hi0⟩
  ·cases xs with
   | nil=>exact⟨st,rfl,t,TP.refl st,fun x hx=>(by cases hx)⟩
   | cons x xs =>
    rw [List.length_cons] at hk
    rw [tl]
    obtain⟨st1,e1,t1,p1,v1⟩:=ih.2.2 x a A st t hva (hx x List.mem_cons_self) (by omega)
    have hm1:=Nat.mul_le_mul_right (2 * B+8) p1.z
    obtain⟨st2,e2,t2,p2,v2⟩:=ih.2.1 xs a A st1 t1 (p1.vis hva) (fun y hy=>hx y (List.mem_cons_of_mem _ hy)) (by omega)
    rw [e1]
    refine⟨st2,e2,t2,p1.trans p2,fun y hy=>?_⟩
    rcases List.mem_cons.1 hy with rfl | h
    ·exact p2.vis v1
    ·exact v2 y h
  ·rw [ts]
   obtain⟨i,hi⟩:=gt_ir t.lix hx
   rw [hi]
   simp only
   by_cases h0:i=0
   ·subst h0
    rw [if_pos rfl]
    obtain⟨st1,e1,t1,p1,v1,_⟩:=ih.1 x A st t hx hi (by omega)
    rw [e1]
    obtain⟨j,hj,hj0⟩:=v1
    obtain⟨l,hl,hl1,hl2⟩:=t1.low x j hj hj0
    simp only [hl]
    obtain⟨st2,e2,t2,p2,s2,x2⟩:=low_tot t1 (p1.vis hva) hl1
    exact⟨st2,e2,t2,p1.trans p2,p2.vis ⟨j,hj,hj0⟩⟩
   ·rw [if_neg h0]
    obtain⟨b,hb2⟩:=gt_ir t.lon hx
    rw [hb2]
    cases b with
    | false=>exact⟨st,rfl,t,TP.refl st,⟨i,hi,h0⟩⟩
    | true =>
     have hp:=t.pos x i hi
     obtain⟨st2,e2,t2,p2,s2,x2⟩:=low_tot t hva (v:=i) (by omega)
     exact⟨st2,e2,t2,p2,p2.vis ⟨i,hi,h0⟩⟩
theorem gt_repl {m:Nat}{x y:α}{u:Int}(h:gt (List.replicate m x) u=some y):y=x:=(List.mem_replicate.1 (List.mem_of_getElem? (gt_some h).2)).2
theorem init_TI:TI N A (tInit N.length):=by
 have hz:zc (tInit N.length).ix=N.length:=by unfold tInit zc;simp
 have h0:∀ u i,gt (tInit N.length).ix u=some i→i=0:=fun u i h=>gt_repl h
 refine⟨by simp [tInit],by simp [tInit],by simp [tInit],by simp [tInit],?_,by omega,?_,?_,?_,?_,?_,?_,?_⟩
 ·show (0:Int)=_
  rw [hz];omega
 ·intro u i h;rw [h0 u i h];omega
 ·intro u i h hi;exact absurd (h0 u i h) hi
 ·intro u hu;cases hu
 ·exact List.nodup_nil
 ·show 0+0≤_;omega
 ·intro u i h hi;exact absurd (h0 u i h) hi
 ·intro u i h hi;exact absurd (h0 u i h) hi
theorem comp_tot {root:Int}(hI:IxOK N N.length)(hr:IR N.length root)(hB:∀ x ∈ N,x.keys.length≤B∧x.items.length≤B)(hb:N.length≤4096)(hnB:N.length≤B)(hall:∀ v,IR N.length v→∃ s,s<N.length∧Wk N root s v){k:Nat}(hk:N.length * (2 * B+8)≤k) :
  ∃ nn szs,comp k N root=some (nn,szs)∧nn.length=N.length∧szs.length≤N.length∧∀ v,IR N.length v→∃ c,gt nn v=some c∧0≤c∧c<(szs.length:Int):=by
 have hz:zc (tInit N.length).ix=N.length:=by unfold tInit zc;simp
 have h0:gt (tInit N.length).ix root=some 0:=by
  obtain⟨x,hx⟩:=gt_ir (l:=(tInit N.length).ix) (n:=N.length) (by simp [tInit]) hr
  rw [hx,gt_repl hx]
 obtain⟨st,e,t,p,vr,hs⟩:=(tv_tot hI hB hb hnB k).1 root (fun _=>False) _ init_TI hr h0 (by rw [hz];exact hk)
 have hst:st.stk=[]:=hs hz
 have hvis:∀ s v,Wk N root s v→Vis st v:=fun s v w=>by
  induction w with
  | root=>exact vr
  | step _ e ih =>
   obtain⟨i,hi,hi0⟩:=ih
   rcases t.clo _ i hi hi0 with h | h
   ·exact h.elim
   ·exact h _ e
 refine⟨st.nn,st.szs,by unfold comp;rw [e];rfl,t.lnn,?_,fun u hu=>?_⟩
 ·have:=t.cnt;omega
 ·obtain⟨s,_,w⟩:=hall u hu
  obtain⟨i,hi,hi0⟩:=hvis s u w
  rcases t.nnv u i hi hi0 with h | h
  ·rw [hst] at h;cases h
  ·exact h
end
end Go.Sh
set_option linter.all false
namespace Go.Sh
open Go Go.Ago Go.Proofs
variable {α β:Type}
section
variable {N:List NodeV}{B n p:Nat}{nn:List Int}
theorem mem_tot:∀ {cs:List Int} {i:Nat} {X:List (List Int)},X.length=p→(∀ c ∈ cs,IR p c)→i+cs.length≤n→(∀ xs ∈ X,∀ v ∈ xs,IR n v)→∃ Y,mem i cs X=some Y∧Y.length=p∧∀ xs ∈ Y,∀ v ∈ xs,IR n v
 | [],i,X,hX,_,_,hm=>⟨X,rfl,hX,hm⟩
 | c::cs,i,X,hX,hc,hi,hm=>by
  rw [List.length_cons] at hi
  obtain⟨xs,hxs⟩:=gt_ir (l:=X) hX (hc c List.mem_cons_self)
  rw [mem,hxs]
  refine mem_tot (by simpa using hX) (fun d hd=>hc d (List.mem_cons_of_mem _ hd)) (by omega) fun ys hys v hv=>?_
  rcases List.mem_or_eq_of_mem_set hys with h | h
  ·exact hm ys h v hv
  ·rw [h] at hv
   rcases List.mem_append.1 hv with h | h
   ·exact hm xs (gt_mem hxs) v h
   ·rw [List.mem_singleton.1 h];exact⟨by omega,by omega⟩
def NnOK (nn:List Int)(n p:Nat):Prop:=∀ v,IR n v→∃ c,gt nn v=some c∧0≤c∧c<(p:Int)
theorem dR_tot (hN:NnOK nn n p){c:Int}(hc:IR p c):∀ {xs b:List Int} {a:Bool},(∀ v ∈ xs,IR n v)→b.length=p→∃ b' a',dR nn c xs b a=some (b',a')∧b'.length=p
 | [],b,a,_,hb=>⟨b,a,rfl,hb⟩
 | x::xs,b,a,hx,hb=>by
  obtain⟨d,hd,h1,h2⟩:=hN x (hx x List.mem_cons_self)
  rw [dR,hd]
  simp only
  split
  ·exact dR_tot hN hc (fun v hv=>hx v (List.mem_cons_of_mem _ hv)) hb
  ·obtain⟨q,hq⟩:=gt_ir (l:=b) hb hc
   obtain⟨r,hr⟩:=gt_ir (l:=b) hb (v:=d) ⟨h1,h2⟩
   rw [hq,hr]
   exact dR_tot hN hc (fun v hv=>hx v (List.mem_cons_of_mem _ hv)) (by simpa using hb)
theorem dM_tot (hI:IxOK N N.length)(hN:NnOK nn N.length p){c:Int}(hc:IR p c):∀ {xs b:List Int} {a:Bool},(∀ v ∈ xs,IR N.length v)→b.length=p→∃ b' a',dM N nn c xs b a=some (b',a')∧b'.length=p
 | [],b,a,_,hb=>⟨b,a,rfl,hb⟩
 | x::xs,b,a,hx,hb=>by
  obtain⟨y,hy⟩:=gt_ir (l:=N) rfl (hx x List.mem_cons_self)
  obtain⟨b1,a1,e1,l1⟩:=dR_tot (a:=a) hN hc (hI y (gt_mem hy)).1 hb
  obtain⟨b2,a2,e2,l2⟩:=dR_tot (a:=a1) hN hc (hI y (gt_mem hy)).2 l1
  rw [dM,hy]
  simp only [e1,e2]
  exact dM_tot hI hN hc (fun v hv=>hx v (List.mem_cons_of_mem _ hv)) l2
theorem dC_tot (hI:IxOK N N.length)(hN:NnOK nn N.length p):∀ {r:List (List Int×Int)} {c:Nat} {b:List Int} {a:Bool},c+r.length≤p→(∀ y ∈ r,∀ v ∈ y.1,IR N.length v)→b.length=p→∃ b' a',dC N nn c r b a=some (b',a')∧b'.length=p
 | [],c,b,a,_,_,hb=>⟨b,a,rfl,hb⟩
 | (xs,sz)::r,c,b,a,hc,hx,hb=>by
  rw [List.length_cons] at hc
  have hcp:IR p (c:Int):=⟨by omega,by omega⟩
  obtain⟨b1,a1,e1,l1⟩:=dM_tot (a:=a) hI hN hcp (hx _ List.mem_cons_self) hb
  obtain⟨q,hq⟩:=gt_ir (l:=b1) l1 hcp
  rw [dC]
  simp only at e1
  simp only [e1,hq]
  exact dC_tot hI hN (by omega) (fun y hy=>hx y (List.mem_cons_of_mem _ hy)) (by simpa using l1)
theorem dep_tot {root:Int}(hI:IxOK N N.length)(hr:IR N.length root)(hB:∀ x ∈ N,x.keys.length≤B∧x.items.length≤B)(hb:N.length≤4096)(hnB:N.length≤B)(hall:∀ v,IR N.length v→∃ s,s<N.length∧Wk N root s v){k:Nat}(hk:N.length * (2 * B+8)≤k) :
  ∃ r,dep k N root=some r:=by
 obtain⟨nn,szs,e,h1,h2,h3⟩:=comp_tot hI hr hB hb hnB hall hk
 unfold dep
 rw [e]
 simp only
 rw [if_pos h2]
 obtain⟨X,eX,l1,hX⟩:=mem_tot (n:=N.length) (p:=szs.length) (cs:=nn) (i:=0) (X:=List.replicate szs.length []) (by simp) (fun c hc=>by
  obtain⟨i,hi⟩:=List.mem_iff_getElem?.1 hc
  have hlt:=(List.getElem?_eq_some_iff.1 hi).1
  obtain⟨d,hd,g1,g2⟩:=h3 (i:Int) ⟨by omega,by omega⟩
  unfold gt at hd
  rw [if_pos (by omega),Int.toNat_natCast,hi] at hd
  cases hd;exact⟨g1,g2⟩) (by omega) (fun xs hxs v hv=>by rw [(List.mem_replicate.1 hxs).2] at hv;cases hv)
 rw [eX]
 obtain⟨b,a,eb,lb⟩:=dC_tot (r:=X.zip szs) (c:=0) (b:=List.replicate szs.length 0) (a:=true) hI h3 (by rw [List.length_zip];omega) (fun y hy v hv=>hX y.1 (List.of_mem_zip hy).1 v hv) (by simp)
 simp only [eb]
 obtain⟨c,hc,g1,g2⟩:=h3 root hr
 obtain⟨v,hv⟩:=gt_ir (l:=b) lb (v:=c) ⟨g1,g2⟩
 rw [hc]
 simp only [hv]
 exact⟨_,rfl⟩
theorem gA_tot:∀ {ms:List Bool} {X:List NodeV},ms.length=X.length→∃ r,gA ms X=some r∧(r=true→(∀ m ∈ ms,m=true)∧∀ x ∈ X,formP x=some true)
 | [],[],_=>⟨true,rfl,fun _=>⟨fun m h=>(by cases h),fun m h=>(by cases h)⟩⟩
 | m::ms,x::X,hl=>by
  rw [gA]
  cases m with
  | false=>exact⟨false,by simp,fun h=>by cases h⟩
  | true =>
   rw [if_neg (by simp)]
   obtain⟨f,hf⟩:=formP_some x
   rw [hf]
   cases f with
   | false=>exact⟨false,rfl,fun h=>by cases h⟩
   | true =>
    obtain⟨r,hr,h⟩:=gA_tot (ms:=ms) (X:=X) (by simpa using hl)
    refine⟨r,hr,fun h1=>⟨fun m hm=>?_,fun y hy=>?_⟩⟩
    ·rcases List.mem_cons.1 hm with h2 | h2
     ·exact h2
     ·exact (h h1).1 m h2
    ·rcases List.mem_cons.1 hy with h2 | h2
     ·rw [h2];exact hf
     ·exact (h h1).2 y h2
theorem gB_of:∀ {bs:List Bool} {cs:List Int} {i:Nat} {c:Int},gB bs cs=true→bs[i]?=some true→cs[i]?=some c→c=1
 | [],cs,i,c,_,h,_=>by simp at h
 | b::bs,[],i,c,_,_,h=>by simp at h
 | b::bs,d::cs,0,c,h,hb,hc=>by
  simp at hb hc;subst hb hc
  rw [gB] at h
  by_cases hd:d=1
  ·exact hd
  ·rw [if_pos ⟨rfl,hd⟩] at h;cases h
 | b::bs,d::cs,i+1,c,h,hb,hc=>by
  rw [gB] at h
  split at h
  ·cases h
  ·exact gB_of h (by simpa using hb) (by simpa using hc)
theorem form_map {x:NodeV}(h:formP x=some true):MapOK x:=fun hk=>by
 unfold formP at h
 rw [if_neg (by rw [hk];decide),if_pos hk] at h
 simp at h;exact h.2
def gK (n B:Nat):Nat:=(n+1) * (2 * B+8)
theorem gcheck_tot {root:Int}(hB:∀ x ∈ N,x.keys.length≤B∧x.items.length≤B)(hnB:N.length≤B)(hB2:B<1073741824){k:Nat}(hk:gK N.length B≤k):∃ r,gcheck k N root=some r:=by
 unfold gK at hk
 rw [Nat.add_mul,Nat.one_mul] at hk
 have hk1:N.length * (B+2)≤N.length * (2 * B+8):=Nat.mul_le_mul_left _ (by omega)
 have hk2:N.length * (2 * B+5)≤N.length * (2 * B+8):=Nat.mul_le_mul_left _ (by omega)
 unfold gcheck
 split
 ·exact⟨_,rfl⟩
 rename_i hb
 split
 ·exact⟨_,rfl⟩
 split
 ·exact⟨_,rfl⟩
 rename_i hin
 have hin:inds N root=true:=by simpa using hin
 obtain⟨hr,hI⟩:=inds_of hin
 have hcf:cf (List.replicate N.length false)=N.length:=by unfold cf;simp
 obtain⟨ms,em,pm⟩:=(vis_tot (n:=N.length) (W:=Wk N root) hI hB (fun t u v w e=>.step w e) k).1 root (List.replicate N.length false) (by simp) hr (by rw [hcf];omega)
 rw [em]
 simp only
 have hml:ms.length=N.length:=by rw [pm.len];simp
 obtain⟨r,er,hg⟩:=gA_tot (ms:=ms) (X:=N) hml
 rw [er]
 cases r with
 | false=>exact⟨_,rfl⟩
 | true =>
  obtain⟨hmt,hform⟩:=hg rfl
  have hall:∀ v,IR N.length v→∃ s,s<N.length∧Wk N root s v:=fun v hv=>by
   obtain⟨b,hb2⟩:=gt_ir hml hv
   have:b=true:=hmt b (gt_mem hb2)
   subst this
   rcases pm.snd 0 (fun u hu=>by rw [hu];exact .root) (by rw [hcf];omega) v hb2 with h | h
   ·have:=gt_rep h;cases this
   ·exact h
  simp only [cnt_tot hI hr hB (by omega) hB2]
  obtain⟨ks,ek,lk,ck,_,hks⟩:=inK_tot hI hB (k:=k) (by omega) N (List.replicate N.length false) (fun _ h=>h) (by simp) clo_rep
  rw [ek]
  simp only
  split
  ·exact⟨_,rfl⟩
  rename_i hgb
  have hgb:gB ks (CC N.length (root::N.flatMap refs))=true:=by simpa using hgb
  have hkl:ks.length=N.length:=by rw [lk];simp
  have hK1:∀ v,gt ks v=some true→IR N.length v→(root::N.flatMap refs).count v=1:=fun v hv hiv=>by
   have h1:=CC_gt (l:=root::N.flatMap refs) hiv
   have:=gB_of hgb (gt_some hv).2 (gt_some h1).2
   omega
  obtain⟨H,hH1,hH2⟩:=ranks (K:=fun v=>gt ks v=some true) hI rfl hall hK1
  have hKr:∀ v,gt ks v=some true→IR N.length v:=fun v hv=>by have:=ir_gt hv;rwa [hkl] at this
  have hst:=same_tot (K:=fun v=>gt ks v=some true) hI hB (fun x hx=>form_map (hform x hx)) hKr (fun u v hu e=>ck u hu v e) hH2 k
  obtain⟨tw,et⟩:=twN_tot (k:=k) (N:=N) (P:=fun v=>gt ks v=some true) hKr (fun x y hx hy=>hst.1 x y N.length hx (hKr y hy) (hH1 x) (by rw [Nat.add_mul];omega)) (X:=N) (fun x hx v hv=>hks x hx v hv)
  rw [et]
  cases tw with
  | true=>exact⟨_,rfl⟩
  | false =>
   obtain⟨⟨d,a⟩,ed⟩:=dep_tot hI hr hB (by omega) hnB hall (k:=k) (by omega)
   simp only [ed]
   split
   ·exact⟨_,rfl⟩
   ·exact⟨_,rfl⟩
end
end Go.Sh
set_option linter.all false
namespace Go.Sh
open Go Go.Ago Go.Proofs
variable {α β:Type}
section
variable {N:List NodeV}{S:List SpanV}{B:Nat}{root:Int}
theorem gcheck_zero {k:Nat}(h:gcheck k N root=some 0):inds N root=true:=by
 unfold gcheck at h
 split at h
 ·cases h
 split at h
 ·cases h
 split at h
 ·cases h
 ·rename_i hi;simpa using hi
theorem gt_nat {l:List α}{i:Nat}:gt l (i:Int)=l[i]?:=by unfold gt;rw [if_pos (by omega)];simp
def ParOK (N:List NodeV)(S:List SpanV)(j:Nat)(x:SpanV):Prop:=∃ q p nd,x.parent=((q:Nat):Int)∧q<j∧S[q]?=some p∧p.alias=false∧gt N p.node=some nd∧0≤x.entry∧x.entry<(nd.items.length:Int)
theorem occ0_tot (hI:IxOK N N.length):∀ (xs:List SpanV) (i:Nat),S.drop (i+1)=xs→(∀ (j:Nat) (x:SpanV),j≤i→S[j]?=some x→IR N.length x.node) →
  ∃ r,occ0 N S i xs=some r∧(r=true→∀ (j:Nat) (x:SpanV),S[j]?=some x→IR N.length x.node∧(i<j→ParOK N S j x))
 | [],i,hd,hp=>by
  refine⟨true,rfl,fun _ j x hx=>?_⟩
  have hlt:=(List.getElem?_eq_some_iff.1 hx).1
  have hle:S.length≤i+1:=List.drop_eq_nil_iff.1 hd
  exact⟨hp j x (by omega) hx,fun h=>by omega⟩
 | x::xs,i,hd,hp=>by
  have hx:S[i+1]?=some x:=by
   have:=congrArg (fun l=>l[0]?) hd
   simpa [List.getElem?_drop] using this
  have hd2:S.drop (i+1+1)=xs:=by
   have:=congrArg (fun l=>l.drop 1) hd
   simpa [List.drop_drop] using this
  rw [occ0]
  split
  ·exact⟨false,rfl,fun h=>by cases h⟩
  rename_i h1
  split
  ·exact⟨false,rfl,fun h=>by cases h⟩
  rename_i h2
  have hlt:=(List.getElem?_eq_some_iff.1 hx).1
  obtain⟨p,hpg⟩:=gt_ir (l:=S) rfl (v:=x.parent) ⟨by omega,by omega⟩
  have hpq:S[x.parent.toNat]?=some p:=(gt_some hpg).2
  rw [hpg]
  simp only
  split
  ·exact⟨false,rfl,fun h=>by cases h⟩
  rename_i h3
  obtain⟨nd,hnd⟩:=gt_ir (l:=N) rfl (hp x.parent.toNat p (by omega) hpq)
  simp only [hnd]
  split
  ·exact⟨false,rfl,fun h=>by cases h⟩
  rename_i h4
  split
  ·exact⟨false,rfl,fun h=>by cases h⟩
  rename_i h5
  obtain⟨v,hv⟩:=gt_ir (l:=nd.items) rfl (v:=x.entry) ⟨by omega,by omega⟩
  simp only [hv]
  split
  ·rename_i h6
   have hiv:IR N.length x.node:=by rw [h6];exact (hI nd (gt_mem hnd)).2 v (gt_mem hv)
   obtain⟨r,e,f⟩:=occ0_tot hI xs (i+1) hd2 fun j y hj hy=>by
    by_cases hj2:j=i+1
    ·subst hj2;rw [hx] at hy;cases hy;exact hiv
    ·exact hp j y (by omega) hy
   refine⟨r,e,fun hr j y hy=>⟨(f hr j y hy).1,fun hj=>?_⟩⟩
   by_cases hj2:j=i+1
   ·subst hj2;rw [hx] at hy;cases hy
    exact⟨x.parent.toNat,p,nd,by omega,by omega,hpq,by simpa using h3,hnd,by omega,by omega⟩
   ·exact (f hr j y hy).2 (by omega)
  ·exact⟨false,rfl,fun h=>by cases h⟩
theorem chl_spec {k p:Int}:∀ {xs:List SpanV} {i:Nat},k ∈ chl i xs p↔∃ j x,k=((i+j:Nat):Int)∧xs[j]?=some x∧x.parent=p
 | [],i=>by simp [chl]
 | y::xs,i=>by
  rw [chl]
  have ih:=chl_spec (k:=k) (p:=p) (xs:=xs) (i:=i+1)
  constructor
  ·intro h
   have h2:(k=(i:Int)∧y.parent=p)∨k ∈ chl (i+1) xs p:=by
    split at h
    ·rename_i hp
     rcases List.mem_cons.1 h with h | h
     ·exact .inl ⟨h,hp⟩
     ·exact .inr h
    ·exact .inr h
   rcases h2 with ⟨h,hp⟩ | h
   ·exact⟨0,y,by simpa using h,by simp,hp⟩
   ·obtain⟨j,x,g1,g2,g3⟩:=ih.1 h
    exact⟨j+1,x,by rw [g1];omega,by simpa using g2,g3⟩
  ·rintro⟨j,x,g1,g2,g3⟩
   cases j with
   | zero =>
    simp at g2;subst g2
    rw [if_pos g3,g1];simp
   | succ j =>
    have:k ∈ chl (i+1) xs p:=ih.2 ⟨j,x,by rw [g1];omega,by simpa using g2,g3⟩
    split
    ·exact List.mem_cons_of_mem _ this
    ·exact this
theorem chl_in {k p:Int}:k ∈ chl 0 S p↔∃ x,gt S k=some x∧x.parent=p:=by
 rw [chl_spec]
 constructor
 ·rintro⟨j,x,rfl,h2,h3⟩
  exact⟨x,by rw [Nat.zero_add,gt_nat];exact h2,h3⟩
 ·rintro⟨x,h1,h2⟩
  obtain⟨h3,h4⟩:=gt_some h1
  exact⟨k.toNat,x,by omega,h4,h2⟩
def Dst (S:List SpanV)(a b:Int):Prop:=∀ c d,gt S a=some c→gt S b=some d→c.entry≠d.entry
theorem met2_tot:∀ {ks:List Int} {m:List Bool},(∀ k ∈ ks,∃ c,gt S k=some c∧IR m.length c.entry) →
  ∃ r,met2 S m ks=some r∧(r≠none→(∀ k ∈ ks,∃ c,gt S k=some c∧gt m c.entry=some false)∧ks.Pairwise (Dst S))
 | [],m,_=>⟨_,rfl,fun _=>⟨fun k hk=>(by cases hk),.nil⟩⟩
 | k::ks,m,h=>by
  obtain⟨c,hc,hr⟩:=h k List.mem_cons_self
  obtain⟨b,hb⟩:=gt_ir (l:=m) rfl hr
  rw [met2,hc]
  simp only [hb]
  cases b with
  | true=>exact⟨none,rfl,fun h=>absurd rfl h⟩
  | false =>
   obtain⟨r,e,f⟩:=met2_tot (ks:=ks) (m:=m.set c.entry.toNat true) fun y hy=>by
    rw [List.length_set];exact h y (List.mem_cons_of_mem _ hy)
   refine⟨r,e,fun hr2=>⟨fun y hy=>?_,.cons (fun y hy=>?_) (f hr2).2⟩⟩
   ·rcases List.mem_cons.1 hy with rfl | hy
    ·exact⟨c,hc,hb⟩
    ·obtain⟨d,hd,hf⟩:=(f hr2).1 y hy
     rw [gt_set hr] at hf
     split at hf
     ·cases hf
     ·exact⟨d,hd,hf⟩
   ·obtain⟨d,hd,hf⟩:=(f hr2).1 y hy
    intro c' d' hc' hd'
    rw [hc] at hc';cases hc'
    rw [hd] at hd';cases hd'
    intro he
    rw [gt_set hr,if_pos he.symm] at hf
    cases hf
theorem ordP_tot:∀ {ks out:List Int},(∀ k ∈ ks,∃ c,gt S k=some c∧IR out.length c.entry)→ks.Pairwise (Dst S) →
  ∃ l,ordP S out ks=some l∧l.length=out.length∧(∀ k ∈ ks,∀ c,gt S k=some c→gt l c.entry=some k)∧(∀ p,(∀ k ∈ ks,∀ c,gt S k=some c→c.entry≠p)→gt l p=gt out p)∧∀ v ∈ l,v ∈ out∨v ∈ ks
 | [],out,_,_=>⟨out,rfl,rfl,fun k hk=>(by cases hk),fun _ _=>rfl,fun v hv=>.inl hv⟩
 | k::ks,out,h,hp=>by
  obtain⟨c,hc,hr⟩:=h k List.mem_cons_self
  obtain⟨h1,h2⟩:=List.pairwise_cons.1 hp
  obtain⟨l,e,g1,g2,g3,g4⟩:=ordP_tot (ks:=ks) (out:=out.set c.entry.toNat k) (fun y hy=>by rw [List.length_set];exact h y (List.mem_cons_of_mem _ hy)) h2
  rw [ordP,hc]
  simp only
  rw [if_pos (show 0≤c.entry∧c.entry<(out.length:Int) from hr)]
  refine⟨l,e,by rw [g1];simp,fun y hy d hd=>?_,fun p hpp=>?_,fun v hv=>?_⟩
  ·rcases List.mem_cons.1 hy with rfl | hy
   ·rw [hc] at hd;cases hd
    rw [g3 _ fun z hz d hd he=>h1 z hz c d hc hd he.symm,gt_set hr,if_pos rfl]
   ·exact g2 y hy d hd
  ·rw [g3 p fun z hz d hd=>hpp z (List.mem_cons_of_mem _ hz) d hd,gt_set hr,if_neg fun he=>hpp k List.mem_cons_self c hc he.symm]
  ·rcases g4 v hv with h | h
   ·rcases List.mem_or_eq_of_mem_set h with h | h
    ·exact .inl h
    ·rw [h];exact .inr List.mem_cons_self
   ·exact .inr (List.mem_cons_of_mem _ h)
structure SOK (N:List NodeV) (S:List SpanV):Prop where
 ne:0<S.length
 fst:∀ f:SpanV,S[0]?=some f→f.parent=-1
 nod:∀ (j:Nat) (x:SpanV),S[j]?=some x→IR N.length x.node
 par:∀ (j:Nat) (x:SpanV),0<j→S[j]?=some x→ParOK N S j x
 chd:∀ (i:Nat) (x:SpanV),S[i]?=some x→x.alias=false→(∀ k ∈ chl 0 S (i:Int),∃ c,gt S k=some c∧IR (chl 0 S (i:Int)).length c.entry)∧(chl 0 S (i:Int)).Pairwise (Dst S)
theorem SOK.child (k:SOK N S){i j:Nat}{c:SpanV}(hc:S[j]?=some c)(hp:c.parent=(i:Int)):i<j∧∃ x nd,S[i]?=some x∧x.alias=false∧gt N x.node=some nd∧0≤c.entry∧c.entry<(nd.items.length:Int):=by
 by_cases hj:j=0
 ·subst hj
  have:=k.fst c hc
  omega
 ·obtain⟨q,p,nd,h1,h2,h3,h4,h5,h6,h7⟩:=k.par j c (by omega) hc
  have:q=i:=by omega
  subst this
  exact⟨h2,p,nd,h3,h4,h5,h6,h7⟩
theorem bump_some {n:Nat}{d:List Int}(hd:d.length=n){v:Int}(hv:IR n v):∃ d',bump d v=some d'∧d'.length=n:=by
 obtain⟨x,hx⟩:=gt_ir hd hv
 exact⟨_,by unfold bump;rw [hx];rfl,by simpa using hd⟩
theorem occ1_tot (ne:0<S.length)(fst:∀ f:SpanV,S[0]?=some f→f.parent=-1)(nod:∀ (j:Nat) (x:SpanV),S[j]?=some x→IR N.length x.node)(par:∀ (j:Nat) (x:SpanV),0<j→S[j]?=some x→ParOK N S j x) :
  ∀ (xs:List SpanV) (i:Nat) (d:List Int),S.drop i=xs→d.length=N.length →
   ∃ r,occ1 N S i xs d=some r∧(r≠none→∀ (j:Nat) (x:SpanV),i≤j→S[j]?=some x→x.alias=false→(∀ k ∈ chl 0 S (j:Int),∃ c,gt S k=some c∧IR (chl 0 S (j:Int)).length c.entry)∧(chl 0 S (j:Int)).Pairwise (Dst S))
 | [],i,d,hd,_=>by
  refine⟨_,rfl,fun _ j x hj hx=>?_⟩
  have hlt:=(List.getElem?_eq_some_iff.1 hx).1
  have hle:S.length≤i:=List.drop_eq_nil_iff.1 hd
  omega
 | x::xs,i,d,hd,hl=>by
  have hx:S[i]?=some x:=by
   have:=congrArg (fun l=>l[0]?) hd
   simpa [List.getElem?_drop] using this
  have hd2:S.drop (i+1)=xs:=by
   have:=congrArg (fun l=>l.drop 1) hd
   simpa [List.drop_drop] using this
  have step:∀ {d':List Int},d'.length=N.length→(x.alias=false→(∀ k ∈ chl 0 S (i:Int),∃ c,gt S k=some c∧IR (chl 0 S (i:Int)).length c.entry)∧(chl 0 S (i:Int)).Pairwise (Dst S)) →
    ∃ r,occ1 N S (i+1) xs d'=some r∧(r≠none→∀ (j:Nat) (x:SpanV),i≤j→S[j]?=some x→x.alias=false→(∀ k ∈ chl 0 S (j:Int),∃ c,gt S k=some c∧IR (chl 0 S (j:Int)).length c.entry)∧(chl 0 S (j:Int)).Pairwise (Dst S)):=fun {d'} hl' hi=>by
   obtain⟨r,e,f⟩:=occ1_tot ne fst nod par xs (i+1) d' hd2 hl'
   refine⟨r,e,fun hr j y hj hy ha=>?_⟩
   by_cases hji:j=i
   ·subst hji;rw [hx] at hy;cases hy;exact hi ha
   ·exact f hr j y (by omega) hy ha
  rw [occ1]
  by_cases hal:x.alias=true
  ·rw [if_pos hal]
   exact step hl fun h=>by rw [hal] at h;cases h
  rw [if_neg hal]
  obtain⟨d1,e1,l1⟩:=bump_some hl (nod i x hx)
  obtain⟨nd,hnd⟩:=gt_ir (l:=N) rfl (nod i x hx)
  rw [e1]
  simp only [hnd]
  have hch:∀ k ∈ chl 0 S (i:Int),∃ c,gt S k=some c∧IR nd.items.length c.entry:=fun k hk=>by
   obtain⟨c,hc,hcp⟩:=chl_in.1 hk
   obtain⟨h0,h1⟩:=gt_some hc
   refine⟨c,hc,?_⟩
   by_cases hj:k.toNat=0
   ·have:=fst c (by rw [← hj];exact h1)
    omega
   ·obtain⟨q,p,nd2,g1,g2,g3,g4,g5,g6,g7⟩:=par k.toNat c (by omega) h1
    have:q=i:=by omega
    subst this
    rw [hx] at g3;cases g3
    rw [hnd] at g5;cases g5
    exact⟨g6,g7⟩
  obtain⟨r,e,f⟩:=met2_tot (S:=S) (ks:=chl 0 S (i:Int)) (m:=List.replicate nd.items.length false) fun k hk=>by
   rw [List.length_replicate];exact hch k hk
  rw [e]
  cases r with
  | none=>exact⟨none,rfl,fun h=>absurd rfl h⟩
  | some m' =>
   simp only
   by_cases hlen:(chl 0 S (i:Int)).length=nd.items.length
   ·rw [if_pos hlen]
    exact step l1 fun _=>⟨fun k hk=>by rw [hlen];exact hch k hk,(f (by simp)).2⟩
   ·rw [if_neg hlen]
    exact⟨none,rfl,fun h=>absurd rfl h⟩
theorem occs_tot (hB:∀ x ∈ N,x.keys.length≤B∧x.items.length≤B)(hnB:N.length≤B)(hB2:B<1073741824){k:Nat}(hk:gK N.length B≤k):∃ r,occs k N root S=some r∧(r=true→SOK N S):=by
 unfold occs
 obtain⟨e,he⟩:=gcheck_tot (root:=root) hB hnB hB2 hk
 rw [he]
 simp only
 split
 ·exact⟨false,rfl,fun h=>by cases h⟩
 rename_i h0
 have h0:e=0:=Decidable.of_not_not h0
 subst h0
 obtain⟨hr,hI⟩:=inds_of (gcheck_zero he)
 cases S with
 | nil=>exact⟨false,rfl,fun h=>by cases h⟩
 | cons f fs =>
  simp only
  split
  ·exact⟨false,rfl,fun h=>by cases h⟩
  rename_i h1
  split
  ·exact⟨false,rfl,fun h=>by cases h⟩
  rename_i h2
  split
  ·exact⟨false,rfl,fun h=>by cases h⟩
  split
  ·exact⟨false,rfl,fun h=>by cases h⟩
  have h1:f.node=root:=Decidable.of_not_not h1
  have h2:f.parent=-1:=Decidable.of_not_not h2
  obtain⟨r,e0,f0⟩:=occ0_tot (S:=f::fs) hI fs 0 (by simp) fun j x hj hx=>by
   have:j=0:=by omega
   subst this
   simp at hx;subst hx
   rw [h1];exact hr
  rw [e0]
  cases r with
  | false=>exact⟨false,rfl,fun h=>by cases h⟩
  | true =>
   have ne:0<(f::fs).length:=by simp
   have fst:∀ g,(f::fs)[0]?=some g→g.parent=-1:=fun g hg=>by simp at hg;subst hg;exact h2
   have nod:∀ (j:Nat) (x:SpanV),(f::fs)[j]?=some x→IR N.length x.node:=fun j x hx=>(f0 rfl j x hx).1
   have par:∀ (j:Nat) (x:SpanV),0<j→(f::fs)[j]?=some x→ParOK N (f::fs) j x:=fun j x hj hx=>(f0 rfl j x hx).2 hj
   obtain⟨r,e1,f1⟩:=occ1_tot ne fst nod par (f::fs) 0 (List.replicate N.length 0) rfl (by simp)
   simp only [e1]
   cases r with
   | none=>exact⟨false,rfl,fun h=>by cases h⟩
   | some d =>
    obtain⟨ms,em,_⟩:=inK_tot hI hB (k:=k) (by
     unfold gK at hk
     rw [Nat.add_mul,Nat.one_mul] at hk
     have hk1:N.length * (B+2)≤N.length * (2 * B+8):=Nat.mul_le_mul_left _ (by omega)
     omega) N (List.replicate N.length false) (fun _ h=>h) (by simp) clo_rep
    simp only [em]
    exact⟨_,rfl,fun _=>⟨ne,fst,nod,par,fun i x hx ha=>f1 (by simp) i x (Nat.zero_le _) hx ha⟩⟩
structure RngOK (sz:Nat) (x:SpanV):Prop where
 f0:0≤x.frm
 ft:x.frm≤x.to
 tn:x.to≤(sz:Int)
 kk:x.kf≤x.kt
theorem rng0_tot (k:SOK N S){sz:Nat}:∀ (xs:List SpanV),(∀ x ∈ xs,x ∈ S)→∃ r,rng0 sz N S xs=some r∧(r=true→∀ x ∈ xs,RngOK sz x)
 | [],_=>⟨true,rfl,fun _ x hx=>(by cases hx)⟩
 | x::xs,h=>by
  obtain⟨r,e,f⟩:=rng0_tot k xs fun y hy=>h y (List.mem_cons_of_mem _ hy)
  rw [rng0]
  split
  ·exact⟨false,rfl,fun h=>by cases h⟩
  split
  ·exact⟨false,rfl,fun h=>by cases h⟩
  split
  ·exact⟨false,rfl,fun h=>by cases h⟩
  split
  ·exact⟨false,rfl,fun h=>by cases h⟩
  split
  ·exact⟨false,rfl,fun h=>by cases h⟩
  split
  ·exact⟨false,rfl,fun h=>by cases h⟩
  have hent:∃ b,entOf N S x=some b:=by
   unfold entOf
   split
   ·rename_i hp
    obtain⟨j,hj⟩:=List.mem_iff_getElem?.1 (h x List.mem_cons_self)
    by_cases hj0:j=0
    ·subst hj0
     have:=k.fst x hj;omega
    ·obtain⟨q,p,nd,g1,g2,g3,g4,g5,g6,g7⟩:=k.par j x (by omega) hj
     rw [g1,gt_nat,g3]
     simp only [g5]
     exact⟨_,rfl⟩
   ·exact⟨_,rfl⟩
  obtain⟨b,hb⟩:=hent
  rw [hb]
  simp only
  split
  ·exact⟨false,rfl,fun h=>by cases h⟩
  ·refine⟨r,e,fun hr y hy=>?_⟩
   rcases List.mem_cons.1 hy with rfl | hy
   ·exact⟨by omega,by omega,by omega,by omega⟩
   ·exact f hr y hy
theorem rngN_tot {src:ByteArray}:∀ (T:List NoteV) (l:Int),0≤l→∃ r,rngN src l T=some r
 | [],l,_=>⟨_,rfl⟩
 | x::T,l,h=>by
  rw [rngN]
  split
  ·exact⟨_,rfl⟩
  split
  ·exact⟨_,rfl⟩
  split
  ·exact⟨_,rfl⟩
  split
  ·split
   ·exact rngN_tot T x.to (by omega)
   ·exact⟨_,rfl⟩
  ·omega
theorem rngs_tot (k:SOK N S){src:ByteArray}{T:List NoteV}:∃ r,rngs src N S T=some r∧(r=true→∀ x ∈ S,RngOK src.size x):=by
 unfold rngs
 obtain⟨r,e,f⟩:=rng0_tot k (sz:=src.size) S fun _ h=>h
 rw [e]
 cases r with
 | false=>exact⟨false,rfl,fun h=>by cases h⟩
 | true =>
  obtain⟨r2,e2⟩:=rngN_tot (src:=src) T 0 (by omega)
  exact⟨r2,e2,fun _=>f rfl⟩
def Before (S:List SpanV)(v w:Int):Prop:=∀ c d,gt S v=some c→gt S w=some d→c.to≤d.frm
theorem nstL_tot {sz:Nat}(hr:∀ x ∈ S,RngOK sz x)(e:Bool):∀ (l:List Int) (a:Int),(∀ v ∈ l,∃ c,gt S v=some c) →
  ∃ r,nstL S e a l=some r∧∀ b,r=some b→a≤b∧(∀ v ∈ l,∀ c,gt S v=some c→a≤c.frm∧c.to≤b)∧l.Pairwise (Before S)
 | [],a,_=>⟨_,rfl,fun b hb=>by cases hb;exact⟨Int.le_refl _,fun v hv=>(by cases hv),.nil⟩⟩
 | k::l,a,h=>by
  obtain⟨c,hc⟩:=h k List.mem_cons_self
  have hrc:=hr c (gt_mem hc)
  obtain⟨r,er,f⟩:=nstL_tot hr e l c.to fun v hv=>h v (List.mem_cons_of_mem _ hv)
  have fin:a≤c.frm→∀ b,r=some b→a≤b∧(∀ v ∈ k::l,∀ c,gt S v=some c→a≤c.frm∧c.to≤b)∧(k::l).Pairwise (Before S):=fun ha b hb=>by
   obtain⟨f1,f2,f3⟩:=f b hb
   have:=hrc.ft
   refine⟨by omega,fun v hv d hd=>?_,.cons (fun v hv c' d hc' hd=>?_) f3⟩
   ·rcases List.mem_cons.1 hv with rfl | hv
    ·rw [hc] at hd;cases hd;exact⟨ha,f1⟩
    ·have:=f2 v hv d hd;exact⟨by omega,this.2⟩
   ·rw [hc] at hc';cases hc'
    exact (f2 v hv d hd).1
  rw [nstL,hc]
  simp only
  have hkk:=hrc.kk
  split
  ·split
   ·exact⟨none,rfl,fun b hb=>by cases hb⟩
   split
   ·exact⟨none,rfl,fun b hb=>by cases hb⟩
   ·exact⟨r,er,fin (by omega)⟩
  ·split
   ·exact⟨none,rfl,fun b hb=>by cases hb⟩
   ·exact⟨r,er,fin (by omega)⟩
def NstOK (S:List SpanV)(i:Nat)(x:SpanV):Prop :=
 (∀ k c,gt S k=some c→c.parent=(i:Int)→x.frm≤c.frm∧c.to≤x.to)∧∀ k c k' c',gt S k=some c→gt S k'=some c'→c.parent=(i:Int)→c'.parent=(i:Int)→k≠k'→c.to≤c'.frm∨c'.to≤c.frm
theorem ord_child (k:SOK N S){i:Nat}{x:SpanV}(hx:S[i]?=some x)(ha:x.alias=false):∃ l,ordP S (List.replicate (chl 0 S (i:Int)).length 0) (chl 0 S (i:Int))=some l∧l.length=(chl 0 S (i:Int)).length∧(∀ v ∈ l,∃ c,gt S v=some c) ∧
  ∀ v c,gt S v=some c→c.parent=(i:Int)→gt l c.entry=some v:=by
 obtain⟨h1,h2⟩:=k.chd i x hx ha
 obtain⟨l,e,g1,g2,g3,g4⟩:=ordP_tot (S:=S) (ks:=chl 0 S (i:Int)) (out:=List.replicate (chl 0 S (i:Int)).length 0) (fun y hy=>by rw [List.length_replicate];exact h1 y hy) h2
 refine⟨l,e,by rw [g1];simp,fun v hv=>?_,fun v c hc hp=>g2 v (chl_in.2 ⟨c,hc,hp⟩) c hc⟩
 rcases g4 v hv with h | h
 ·rw [(List.mem_replicate.1 h).2]
  have:=k.ne
  exact gt_ir (l:=S) rfl ⟨by omega,by omega⟩
 ·obtain⟨c,hc,_⟩:=h1 v h
  exact⟨c,hc⟩
theorem pw_at {R:Int→Int→Prop}:∀ {l:List Int} {p q:Nat} {v w:Int},l.Pairwise R→p<q→l[p]?=some v→l[q]?=some w→R v w
 | [],p,q,v,w,_,_,h,_=>by simp at h
 | a::l,0,q+1,v,w,hp,_,h,h2=>by
  simp at h;subst h
  exact (List.pairwise_cons.1 hp).1 w (List.mem_of_getElem? (by simpa using h2))
 | a::l,p+1,q+1,v,w,hp,hpq,h,h2=>pw_at (p:=p) (q:=q) (List.pairwise_cons.1 hp).2 (by omega) (by simpa using h) (by simpa using h2)
theorem nst0_tot (k:SOK N S){sz:Nat}(hr:∀ x ∈ S,RngOK sz x):∀ (xs:List SpanV) (i:Nat),S.drop i=xs→∃ r,nst0 N S i xs=some r∧(r=true→∀ (j:Nat) (x:SpanV),i≤j→S[j]?=some x→x.whole=true→x.alias=false→NstOK S j x)
 | [],i,hd=>by
  refine⟨true,rfl,fun _ j x hj hx=>?_⟩
  have hlt:=(List.getElem?_eq_some_iff.1 hx).1
  have hle:S.length≤i:=List.drop_eq_nil_iff.1 hd
  omega
 | x::xs,i,hd=>by
  have hx:S[i]?=some x:=by
   have:=congrArg (fun l=>l[0]?) hd
   simpa [List.getElem?_drop] using this
  have hd2:S.drop (i+1)=xs:=by
   have:=congrArg (fun l=>l.drop 1) hd
   simpa [List.drop_drop] using this
  obtain⟨r,er,f⟩:=nst0_tot k hr xs (i+1) hd2
  have fin:(x.whole=true→x.alias=false→NstOK S i x)→r=true→∀ (j:Nat) (x:SpanV),i≤j→S[j]?=some x→x.whole=true→x.alias=false→NstOK S j x:=fun h hr2 j y hj hy hw ha=>by
   by_cases hji:j=i
   ·subst hji;rw [hx] at hy;cases hy;exact h hw ha
   ·exact f hr2 j y (by omega) hy hw ha
  rw [nst0]
  split
  ·rename_i h
   refine⟨r,er,fin fun hw ha=>?_⟩
   rcases h with h | h
   ·rw [hw] at h;cases h
   ·rw [ha] at h;cases h
  rename_i hwa
  have ha:x.alias=false:=by cases hal:x.alias with | false=>rfl | true=>exact absurd (.inr hal) hwa
  obtain⟨nd,hnd⟩:=gt_ir (l:=N) rfl (k.nod i x hx)
  obtain⟨l,el,g1,g2,g3⟩:=ord_child k hx ha
  obtain⟨o,eo,fo⟩:=nstL_tot hr (decide (nd.kind=10)) l x.frm g2
  rw [hnd]
  simp only [el,eo]
  cases o with
  | none=>exact⟨false,rfl,fun h=>by cases h⟩
  | some b =>
   simp only
   split
   ·exact⟨false,rfl,fun h=>by cases h⟩
   rename_i hb
   obtain⟨f1,f2,f3⟩:=fo b rfl
   refine⟨r,er,fin fun _ _=>⟨fun v c hc hp=>?_,fun v c w d hc hd2 hp hp2 hne=>?_⟩⟩
   ·have:=f2 v (gt_mem (g3 v c hc hp)) c hc
    exact⟨this.1,by omega⟩
   ·have e1:=gt_some (g3 v c hc hp)
    have e2:=gt_some (g3 w d hd2 hp2)
    by_cases h1:c.entry.toNat<d.entry.toNat
    ·exact .inl (pw_at f3 h1 e1.2 e2.2 c d hc hd2)
    by_cases h2:d.entry.toNat<c.entry.toNat
    ·exact .inr (pw_at f3 h2 e2.2 e1.2 d c hd2 hc)
    ·have:c.entry.toNat=d.entry.toNat:=by omega
     rw [this] at e1
     have:=e1.2.symm.trans e2.2
     cases this
     exact absurd rfl hne
structure DocOK (sz:Nat) (N:List NodeV) (S:List SpanV):Prop where
 sok:SOK N S
 rng:∀ x ∈ S,RngOK sz x
 nst:∀ (j:Nat) (x:SpanV),S[j]?=some x→x.whole=true→x.alias=false→NstOK S j x
theorem spCheck_tot (hB:∀ x ∈ N,x.keys.length≤B∧x.items.length≤B)(hnB:N.length≤B)(hB2:B<1073741824){k:Nat}(hk:gK N.length B≤k)(d1:Int)(src:ByteArray)(T:List NoteV) :
  ∃ r,spCheck k d1 src N root S T=some r∧(r=0→DocOK src.size N S):=by
 unfold spCheck
 split
 ·exact⟨_,rfl,fun h=>by cases h⟩
 split
 ·exact⟨_,rfl,fun h=>by cases h⟩
 obtain⟨r,e,f⟩:=occs_tot (root:=root) (S:=S) hB hnB hB2 hk
 rw [e]
 cases r with
 | false=>exact⟨_,rfl,fun h=>by cases h⟩
 | true =>
  have sok:=f rfl
  obtain⟨r2,e2,f2⟩:=rngs_tot sok (src:=src) (T:=T)
  simp only [e2]
  cases r2 with
  | false=>exact⟨_,rfl,fun h=>by cases h⟩
  | true =>
   obtain⟨r3,e3,f3⟩:=nst0_tot sok (f2 rfl) S 0 rfl
   simp only [e3]
   cases r3 with
   | false=>exact⟨_,rfl,fun h=>by cases h⟩
   | true=>exact⟨_,rfl,fun _=>⟨sok,f2 rfl,fun j x hx hw ha=>f3 rfl j x (Nat.zero_le _) hx hw ha⟩⟩
end
end Go.Sh
set_option linter.all false
namespace Go.Sh
open Go Go.Ago Go.Proofs
variable {α β:Type}{h h' h0:AHeap}{L:List Own}
section
variable {N:List NodeV}{S:List SpanV}{T:List NoteV}{B:Nat}{root d1:Int}{src:ByteArray}{nsl ssl tsl:Sl}
def Has (off:Int)(x:SpanV):Prop:=x.frm≤off∧off<x.to
inductive Anc (S:List SpanV):Nat→Nat→Prop
 | refl (j:Nat):Anc S j j
 | up {i p j:Nat} {y:SpanV}:S[j]?=some y→y.parent=(p:Int)→p<j→Anc S i p→Anc S i j
theorem Anc.le {i j:Nat}(a:Anc S i j):i≤j:=by
 induction a with
 | refl=>exact Nat.le_refl _
 | up _ _ h _ ih=>omega
def AllW (S:List SpanV):Prop:=∀ (i:Nat) (x:SpanV),S[i]?=some x→x.whole=true∨chl 0 S (i:Int)=[]
theorem in_par {sz:Nat}(D:DocOK sz N S)(W:AllW S){j p:Nat}{y:SpanV}(hy:S[j]?=some y)(hp:y.parent=(p:Int)):p<j∧∃ x,S[p]?=some x∧x.frm≤y.frm∧y.to≤x.to∧NstOK S p x:=by
 obtain⟨h1,x,nd,hx,ha,_⟩:=D.sok.child hy hp
 have hgy:gt S (j:Int)=some y:=by rw [gt_nat];exact hy
 have hw:x.whole=true:=(W p x hx).resolve_right fun h=>by
  have:(j:Int) ∈ chl 0 S (p:Int):=chl_in.2 ⟨y,hgy,hp⟩
  rw [h] at this;cases this
 have n:=D.nst p x hx hw ha
 have:=n.1 (j:Int) y hgy hp
 exact⟨h1,x,hx,this.1,this.2,n⟩
theorem Anc.sub {sz:Nat}(D:DocOK sz N S)(W:AllW S){i j:Nat}(a:Anc S i j):∀ {y:SpanV},S[j]?=some y→∃ x,S[i]?=some x∧x.frm≤y.frm∧y.to≤x.to:=by
 induction a with
 | refl=>intro y hy;exact⟨y,hy,Int.le_refl _,Int.le_refl _⟩
 | up hz hp _ _ ih =>
  intro y hy
  rw [hz] at hy;cases hy
  obtain⟨_,x,hx,h1,h2,_⟩:=in_par D W hz hp
  obtain⟨w,hw,h3,h4⟩:=ih hx
  exact⟨w,hw,by omega,by omega⟩
theorem Anc.split {p i:Nat}(a:Anc S p i):p≠i→∃ q z,Anc S q i∧S[q]?=some z∧z.parent=(p:Int):=by
 induction a with
 | refl=>intro h;exact absurd rfl h
 | @up p' j y hy hp hlt a ih =>
  intro h
  by_cases he:p=p'
  ·subst he
   exact⟨_,_,.refl _,hy,hp⟩
  ·obtain⟨q,z,h1,h2,h3⟩:=ih he
   exact⟨q,z,.up hy hp hlt h1,h2,h3⟩
theorem chain {sz:Nat}(D:DocOK sz N S)(W:AllW S){off:Int}:∀ (m i j:Nat) (x y:SpanV),i+j≤m→S[i]?=some x→S[j]?=some y→Has off x→Has off y→Anc S i j∨Anc S j i:=by
 intro m
 induction m with
 | zero =>
  intro i j x y hm hx hy _ _
  have h1:i=0:=by omega
  have h2:j=0:=by omega
  subst h1 h2
  exact .inl (.refl 0)
 | succ m ih =>
  have key:∀ (i j:Nat) (x y:SpanV),i<j→i+j≤m+1→S[i]?=some x→S[j]?=some y→Has off x→Has off y→Anc S i j∨Anc S j i:=by
   intro i j x y hij hm hx hy hox hoy
   obtain⟨p,pv,nd,hp,hpj,hps,_⟩:=D.sok.par j y (by omega) hy
   obtain⟨_,px,hpx,h1,h2,nst⟩:=in_par D W hy hp
   have hop:Has off px:=⟨by have:=hoy.1;omega,by have:=hoy.2;omega⟩
   rcases ih i p x px (by omega) hx hpx hox hop with a | a
   ·exact .inl (.up hy hp hpj a)
   ·by_cases hpi:p=i
    ·subst hpi
     exact .inl (.up hy hp hpj (.refl _))
    ·obtain⟨q,z,aq,hz,hzp⟩:=a.split hpi
     obtain⟨z',hz',g1,g2⟩:=aq.sub D W hx
     rw [hz] at hz';cases hz'
     have hqi:=aq.le
     have:=nst.2 (q:Int) z (j:Int) y (by rw [gt_nat];exact hz) (by rw [gt_nat];exact hy) hzp hp (by omega)
     obtain⟨o1,o2⟩:=hox
     obtain⟨o3,o4⟩:=hoy
     omega
  intro i j x y hm hx hy hox hoy
  by_cases h1:i=j
  ·subst h1;exact .inl (.refl _)
  by_cases h2:i<j
  ·exact key i j x y h2 hm hx hy hox hoy
  ·exact (key j i y x (by omega) (by omega) hy hx hoy hox).symm
def AtR (S:List SpanV)(off:Int)(y:Int×Bool):Prop :=
 (y=(0,false)∧∀ (j:Nat) (x:SpanV),S[j]?=some x→¬ Has off x) ∨
 ∃ (b:Nat) (x:SpanV),y=((b:Int),true)∧S[b]?=some x∧Has off x∧∀ (j:Nat) (z:SpanV),S[j]?=some z→Has off z→x.to - x.frm≤z.to - z.frm
theorem inner {sz:Nat}(D:DocOK sz N S)(W:AllW S){off:Int}{b j:Nat}{x z:SpanV}(hx:S[b]?=some x)(hz:S[j]?=some z)(ox:Has off x)(oz:Has off z)(hm:x.to - x.frm≤z.to - z.frm):z.frm≤x.frm∧x.to≤z.to:=by
 rcases chain D W _ b j x z (Nat.le_refl _) hx hz ox oz with a | a
 ·obtain⟨w,hw,h1,h2⟩:=a.sub D W hz
  rw [hx] at hw;cases hw
  omega
 ·obtain⟨w,hw,h1,h2⟩:=a.sub D W hx
  rw [hz] at hw;cases hw
  omega
structure DocR (h0:AHeap) (nsl ssl tsl:Sl) (N:List NodeV) (S:List SpanV) (T:List NoteV) (B:Nat):Prop where
 G:GrR h0 nsl N
 hN:Bd N B
 ht:∀ x ∈ N,x.text.size≤65536
 R:SR h0 ssl S
 RT:NtR h0 tsl T
 hE:∀ h',Fr (fun _=>False) h0 h'→ssl.len≠0→elemOk h' ssl T_api_Span=true
 hB:S.length≤B
 hBT:T.length≤B
theorem DocR.check (D:DocR h0 nsl ssl tsl N S T B)(z:Z h0 h L){k n:Nat}(hn:k+4 * B+65610<n){r:Int}(hv:spCheck k d1 src N root S T=some r):Wp (span_Check n (d1,src,nsl,root,ssl,tsl)) h fun y h'=>y=r∧Z h0 h' L :=
 spanCheck_wp z D.G D.hN D.ht D.R D.RT D.hE D.hB D.hBT hn hv
theorem DocR.ex (D:DocR h0 nsl ssl tsl N S T B)(d1:Int)(src:ByteArray)(root:Int):∃ r,spCheck (gK N.length B) d1 src N root S T=some r∧(r=0→DocOK src.size N S) :=
 spCheck_tot D.hN.2.2 D.hN.1 D.hN.2.1 (Nat.le_refl _) d1 src T
def AtI (S:List SpanV)(off:Int)(i:Nat)(b:Int):Prop :=
 (b=-1∧∀ (j:Nat) (x:SpanV),j<i→S[j]?=some x→¬ Has off x) ∨
 ∃ (c:Nat) (x:SpanV),b=(c:Int)∧S[c]?=some x∧Has off x∧∀ (j:Nat) (z:SpanV),j<i→S[j]?=some z→Has off z→x.to - x.frm≤z.to - z.frm
theorem at_L0 (R:SR h0 ssl S){sz:Nat}(hr:∀ x ∈ S,RngOK sz x)(hsz:sz≤65536)(hB:S.length≤B)(hB2:B<1073741824){off:Int}{x0:Nat} :
  ∀ (n i:Nat) (b:Int) (h:AHeap),S.length - i<n→i≤S.length→AtI S off i b→Z h0 h (DB x0 d1 src nsl root ssl tsl::L) →
   Wp (span_At_L0 n off (adr x0) b ssl (ssl.len:Int) (i:Int)) h fun y h'=>AtI S off S.length y∧Z h0 h' (DB x0 d1 src nsl root ssl tsl::L):=by
 intro n
 induction n with
 | zero=>intro i b h h1;omega
 | succ n ih =>
  intro i b h h1 h2 hb z
  rw [span_At_L0_succ]
  unfold span_At_L0_B
  rw [R.len]
  by_cases hi:i<S.length
  ·rw [if_pos (by simp;omega)]
   obtain⟨x,hx⟩:=getI hi
   have hrx:=hr x (List.mem_of_getElem? hx)
   refine R.at z (gtN hx) fun a c1=>c1.lds ?_
   refine z.span (x:=x) fun b2 h2' z=>?_
   have nxt:∀ {b':Int},AtI S off (i+1) b'→Wp (span_At_L0 n off (adr x0) b' ssl (S.length:Int) (IntKind.i64.wrap ((i:Int)+1))) h2' fun y h'=>AtI S off S.length y∧Z h0 h' (DB x0 d1 src nsl root ssl tsl::L):=fun {b'} hb'=>by
    rw [up1 h2 (by omega)]
    have:=ih (i+1) b' h2' (by omega) (by omega) hb' z.drop
    rwa [R.len] at this
   have keep:¬ Has off x→AtI S off (i+1) b:=fun hno=>by
    rcases hb with ⟨h3,h4⟩ | ⟨c,y,h3,h4,h5,h6⟩
    ·refine .inl ⟨h3,fun j w hj hw=>?_⟩
     by_cases hji:j=i
     ·subst hji;rw [hx] at hw;cases hw;exact hno
     ·exact h4 j w (by omega) hw
    ·refine .inr ⟨c,y,h3,h4,h5,fun j w hj hw how=>?_⟩
     by_cases hji:j=i
     ·subst hji;rw [hx] at hw;cases hw;exact absurd how hno
     ·exact h6 j w (by omega) hw how
   refine z.ld 0 (o:=3) (l:=li) (x:=x.frm) ?_
   by_cases c2:x.frm≤off
   rotate_left
   ·rw [if_neg (by simpa using c2)];exact nxt (keep fun h=>c2 h.1)
   rw [if_pos (by simpa using c2)]
   refine z.ld 0 (o:=4) (l:=li) (x:=x.to) ?_
   by_cases c3:off<x.to
   rotate_left
   ·rw [if_neg (by simpa using c3)];exact nxt (keep fun h=>c3 h.2)
   rw [if_pos (by simpa using c3)]
   rcases hb with ⟨h3,h4⟩ | ⟨c,y,h3,h4,h5,h6⟩
   ·subst h3
    rw [if_pos (by decide)]
    refine nxt (.inr ⟨i,x,rfl,hx,⟨c2,c3⟩,fun j w hj hw how=>?_⟩)
    by_cases hji:j=i
    ·subst hji;rw [hx] at hw;cases hw;exact Int.le_refl _
    ·exact absurd how (h4 j w (by omega) hw)
   ·subst h3
    have hry:=hr y (List.mem_of_getElem? h4)
    rw [if_neg (by simp)]
    refine z.ld 0 (o:=4) (l:=li) (x:=x.to) (z.ld 0 (o:=3) (l:=li) (x:=x.frm) (z.ld 1 (o:=4) (l:=.sl) (x:=ssl) ?_))
    refine R.at z (gtN h4) fun a2 c4=>c4.ld 4 (l:=li) (y:=y.to) (z.ld 1 (o:=4) (l:=.sl) (x:=ssl) ?_)
    refine R.at z (gtN h4) fun a3 c5=>c5.ld 3 (l:=li) (y:=y.frm) ?_
    obtain⟨e1,e2,e3,_⟩:=hrx
    obtain⟨f1,f2,f3,_⟩:=hry
    rw [w64 (x:=x.to - x.frm) (by omega) (by omega),w64 (x:=y.to - y.frm) (by omega) (by omega)]
    by_cases c6:x.to - x.frm≤y.to - y.frm
    ·rw [if_pos (by simpa using c6)]
     refine nxt (.inr ⟨i,x,rfl,hx,⟨c2,c3⟩,fun j w hj hw how=>?_⟩)
     by_cases hji:j=i
     ·subst hji;rw [hx] at hw;cases hw;exact Int.le_refl _
     ·have:=h6 j w (by omega) hw how;omega
    ·rw [if_neg (by simpa using c6)]
     refine nxt (.inr ⟨c,y,rfl,h4,h5,fun j w hj hw how=>?_⟩)
     by_cases hji:j=i
     ·subst hji;rw [hx] at hw;cases hw;omega
     ·exact h6 j w (by omega) hw how
  ·rw [if_neg (by simp;omega),Wp_pure]
   have:i=S.length:=by omega
   subst this
   exact⟨hb,z⟩
theorem At_wp (D:DocR h0 nsl ssl tsl N S T B)(z:Z h0 h L){k n:Nat}(hn:k+4 * B+65610<n)(hv:spCheck k d1 src N root S T=some 0)(hr:∀ x ∈ S,RngOK src.size x)(hs:src.size≤65536)(off:Int) :
  Wp (span_At n (d1,src,nsl,root,ssl,tsl) off) h fun y h'=>AtR S off y∧Z h0 h' L:=by
 unfold span_At
 refine z.new fun x0 h1 z _=>?_
 refine z.lds 0 (ls:=[li,.str,.sl,li,.sl,.sl]) (x:=(d1,src,nsl,root,ssl,tsl)) ?_
 rw [Wp_bind]
 refine (D.check z hn hv).mono fun y h2 hy=>?_
 obtain⟨rfl,z⟩:=hy
 rw [if_neg (by decide)]
 refine z.ld 0 (o:=4) (l:=.sl) (x:=ssl) ?_
 rw [Wp_bind]
 have hB:=D.hB
 refine (at_L0 D.R hr hs D.hB D.hN.2.1 n 0 (-1) h2 (by omega) (by omega) (.inl ⟨rfl,fun j x hj=>by omega⟩) z).mono fun y h3 hy=>?_
 obtain⟨ha,z⟩:=hy
 rw [Wp_pure]
 refine⟨?_,z.drop⟩
 rcases ha with ⟨rfl,h4⟩ | ⟨c,x,rfl,h4,h5,h6⟩
 ·exact .inl ⟨by decide,fun j x hx=>h4 j x (List.getElem?_eq_some_iff.1 hx).1 hx⟩
 ·refine .inr ⟨c,x,?_,h4,h5,fun j w hw how=>h6 j w (List.getElem?_eq_some_iff.1 hw).1 hw how⟩
  rw [if_neg (by omega)]
  simp
theorem Children_wp (D:DocR h0 nsl ssl tsl N S T B)(z:Z h0 h L){k n:Nat}(hn:k+4 * B+65610<n)(hv:spCheck k d1 src N root S T=some 0){i:Nat}(hi:i<S.length){l:List Int}(ho:ordP S (List.replicate (chl 0 S (i:Int)).length 0) (chl 0 S (i:Int))=some l) :
  Wp (span_Children n (d1,src,nsl,root,ssl,tsl) (i:Int)) h fun y h'=>∃ b,y=arr b (chl 0 S (i:Int)).length∧l.length=(chl 0 S (i:Int)).length∧Z h0 h' (.blk b (l.map vi) T_i64::L):=by
 have hB:=D.hB
 have hcl:=chl_len (i:Int) S 0
 have hB2:=D.hN.2.1
 unfold span_Children
 refine z.new fun x0 h1 z _=>?_
 refine z.lds 0 (ls:=[li,.str,.sl,li,.sl,.sl]) (x:=(d1,src,nsl,root,ssl,tsl)) ?_
 rw [Wp_bind]
 refine (D.check z hn hv).mono fun y h2 hy=>?_
 obtain⟨rfl,z⟩:=hy
 rw [if_neg (by decide),if_neg (by simp)]
 refine z.ld 0 (o:=4) (l:=.sl) (x:=ssl) ?_
 rw [D.R.len,if_neg (by simp;omega)]
 refine z.lds 0 (ls:=[li,.str,.sl,li,.sl,.sl]) (x:=(d1,src,nsl,root,ssl,tsl)) ?_
 refine z.lds 0 (ls:=[li,.str,.sl,li,.sl,.sl]) (x:=(d1,src,nsl,root,ssl,tsl)) ?_
 rw [Wp_bind]
 have l0:LB h2 x0 _ _:=z.get 0 rfl
 refine chk_Wp ((children_wp z D.R D.hB hB2 (by omega)).mono fun y h3 hy=>?_)
 obtain⟨m,MM,rfl,hM,z⟩:=hy
 have z:=z.perm (L':=DB x0 d1 src nsl root ssl tsl::(MM++L)) List.perm_middle
 have l1:LB h3 x0 _ _:=z.get 0 rfl
 refine⟨fun a ha=>?_,?_⟩
 ·simp only [List.mem_cons,Option.some.injEq,List.not_mem_nil,or_false] at ha
  subst ha
  show h3.get x0=h2.get x0
  rw [l0.get,l1.get]
 have hM':MmO (MM++L) m (chl 0 S):=by
  obtain⟨f,c,h1,h2⟩:=hM
  refine⟨f,c,List.mem_append_left _ h1,fun p=>(h2 p).imp id fun ⟨s,g,e,hm⟩=>⟨s,g,e,List.mem_append_left _ hm⟩⟩
 refine Z.mmget (P':=[_]) z hM' fun bb sl hr=>?_
 rw [Wp_bind]
 refine (ordered_wp (L:=DB x0 d1 src nsl root ssl tsl::(MM++L)) z D.R (by omega) (fun {h'} {P'} z'=>hr (P2:=P'++[_]) (by rw [List.append_assoc];exact z')) (by omega) ho).mono fun y h3 hy=>?_
 obtain⟨b3,rfl,hll,z⟩:=hy
 rw [Wp_pure]
 exact⟨b3,rfl,hll,z.sub (List.Sublist.cons₂ _ (List.Sublist.cons _ (List.sublist_append_right _ _)))⟩
structure FewG (N:List NodeV):Prop where
 n:N.length≤40
 x:∀ x ∈ N,x.text.size≤100∧x.keys.length≤80∧x.items.length≤80
theorem few_L0 (G:GrR h0 nsl N){x0:Nat}(hN:N.length≤40) :
  ∀ (n i:Nat) (p q:Int) (h:AHeap),N.length - i<n→i≤N.length→(∀ (j:Nat) (x:NodeV),j<i→N[j]?=some x→x.text.size≤100∧x.keys.length≤80∧x.items.length≤80)→Z h0 h (GB x0 nsl root::L) →
   Wp (rosettalaw10_Few_L0 n (adr x0) p q (i:Int)) h fun y h'=>(∀ w,y=.inl w→∀ (j:Nat) (x:NodeV),N[j]?=some x→x.text.size≤100∧x.keys.length≤80∧x.items.length≤80)∧(∀ b,y=.inr b→b=false)∧Z h0 h' (GB x0 nsl root::L):=by
 intro n
 induction n with
 | zero=>intro i p q h h1;omega
 | succ n ih =>
  intro i p q h h1 h2 hf z
  rw [rosettalaw10_Few_L0_succ]
  unfold rosettalaw10_Few_L0_B
  refine z.ld 0 (o:=0) (l:=.sl) (x:=nsl) ?_
  rw [G.len]
  by_cases hi:i<N.length
  ·rw [if_pos (by simp;omega)]
   obtain⟨x,hx⟩:=getI hi
   refine z.ld 0 (o:=0) (l:=.sl) (x:=nsl) ?_
   refine G.at z (by omega) (by simpa using hx) fun a ks is nd ik ii=>nd.lds ?_
   refine z.node fun x2 h2' z=>?_
   have fin:Wp (M.pure (Sum.inr false:(Int×Int) ⊕ Bool)) h2' fun y h'=>(∀ w,y=.inl w→∀ (j:Nat) (x:NodeV),N[j]?=some x→x.text.size≤100∧x.keys.length≤80∧x.items.length≤80)∧(∀ b,y=.inr b→b=false)∧Z h0 h' (GB x0 nsl root::L):=by
    rw [Wp_pure]
    exact⟨fun w hw=>(by cases hw),fun b hb=>(by cases hb;rfl),z.drop⟩
   refine z.ld 0 (o:=1) (l:=.str) (x:=x.text) ?_
   by_cases c1:(100:Int)<x.text.size
   ·rw [if_pos (by simpa using c1)];exact fin
   rw [if_neg (by simpa using c1)]
   refine z.ld 0 (o:=3) (l:=.sl) (x:=ks) ?_
   rw [ik.len]
   by_cases c2:(80:Int)<x.keys.length
   ·rw [if_pos (by simpa using c2)];exact fin
   rw [if_neg (by simpa using c2)]
   refine z.ld 0 (o:=4) (l:=.sl) (x:=is) ?_
   rw [ii.len]
   by_cases c3:(80:Int)<x.items.length
   ·rw [if_pos (by simpa using c3)];exact fin
   rw [if_neg (by simpa using c3)]
   unfold rosettalaw10_Few_L0_J0_B
   refine z.ld 0 (o:=3) (l:=.sl) (x:=ks) (z.ld 0 (o:=4) (l:=.sl) (x:=is) (z.ld 0 (o:=1) (l:=.str) (x:=x.text) ?_))
   rw [up1 (B:=40) (by omega) (by omega)]
   refine ih (i+1) _ _ h2' (by omega) (by omega) (fun j y hj hy=>?_) z.drop
   by_cases hji:j=i
   ·subst hji;rw [hx] at hy;cases hy;exact⟨by omega,by omega,by omega⟩
   ·exact hf j y (by omega) hy
  ·rw [if_neg (by simp;omega),Wp_pure]
   refine⟨fun w _ j x hx=>hf j x ?_ hx,fun b hb=>(by cases hb),z⟩
   have:=(List.getElem?_eq_some_iff.1 hx).1
   omega
theorem few10_wp (G:GrR h0 nsl N)(z:Z h0 h L){n:Nat}(hn:50<n):Wp (rosettalaw10_Few n (nsl,root)) h fun y h'=>(y=true→FewG N)∧Z h0 h' L:=by
 unfold rosettalaw10_Few
 refine z.new fun x0 h1 z _=>?_
 refine z.ld 0 (o:=0) (l:=.sl) (x:=nsl) ?_
 rw [G.len]
 by_cases c1:(40:Int)<N.length
 ·rw [if_pos (by simpa using c1),Wp_pure];exact⟨fun h=>(by cases h),z.drop⟩
 rw [if_neg (by simpa using c1),Wp_bind]
 refine (few_L0 G (by omega) n 0 0 0 h1 (by omega) (by omega) (fun j x hj=>by omega) z).mono fun y h2 hy=>?_
 obtain⟨f1,f2,z⟩:=hy
 cases y with
 | inl w =>
  have fg:FewG N:=⟨by omega,fun x hx=>by obtain⟨j,hj⟩:=List.mem_iff_getElem?.1 hx;exact f1 w rfl j x hj⟩
  show Wp (if _ then _ else _) h2 _
  split
  ·rw [Wp_pure];exact⟨fun _=>fg,z.drop⟩
  ·rw [Wp_pure];exact⟨fun _=>fg,z.drop⟩
 | inr b =>
  show Wp (M.pure b) h2 _
  rw [Wp_pure]
  exact⟨fun h=>(by rw [f2 b rfl] at h;cases h),z.drop⟩
structure FewD (src:ByteArray) (N:List NodeV) (S:List SpanV) (T:List NoteV):Prop where
 g:FewG N
 src:src.size≤2000
 s:S.length≤60
 t:T.length≤40
theorem few18_wp (G:GrR h0 nsl N)(R:SR h0 ssl S)(RT:NtR h0 tsl T)(z:Z h0 h L){n:Nat}(hn:50<n):Wp (rosettalaw18_Few n (d1,src,nsl,root,ssl,tsl)) h fun y h'=>(y=true→FewD src N S T)∧Z h0 h' L:=by
 unfold rosettalaw18_Few
 refine z.new fun x0 h1 z _=>?_
 have c:Cl h1 ((adr x0).plus 2) [vsl nsl,vi root] (x0+1):=by
  have l:LB h1 x0 _ _:=z.get 0 rfl
  exact⟨rfl,_,0,_,l.get,by simp [Addr.plus],by simp [Addr.plus]⟩
 refine c.lds (ls:=[.sl,li]) (x:=(nsl,root)) rfl ?_
 rw [Wp_bind]
 refine (few10_wp G z hn).mono fun y h2 hy=>?_
 obtain⟨f,z⟩:=hy
 cases y with
 | false=>rw [if_neg (by simp),Wp_pure];exact⟨fun h=>(by cases h),z.drop⟩
 | true =>
  rw [if_pos rfl]
  refine z.ld 0 (o:=1) (l:=.str) (x:=src) ?_
  by_cases c1:(src.size:Int)≤2000
  rotate_left
  ·rw [if_neg (by simpa using c1),Wp_pure];exact⟨fun h=>(by cases h),z.drop⟩
  rw [if_pos (by simpa using c1)]
  refine z.ld 0 (o:=4) (l:=.sl) (x:=ssl) ?_
  rw [R.len]
  by_cases c2:(S.length:Int)≤60
  rotate_left
  ·rw [if_neg (by simpa using c2),Wp_pure];exact⟨fun h=>(by cases h),z.drop⟩
  rw [if_pos (by simpa using c2)]
  refine z.ld 0 (o:=5) (l:=.sl) (x:=tsl) ?_
  rw [Wp_pure,RT.len]
  exact⟨fun h=>⟨f rfl,by omega,by omega,by simp at h;omega⟩,z.drop⟩
end
end Go.Sh
