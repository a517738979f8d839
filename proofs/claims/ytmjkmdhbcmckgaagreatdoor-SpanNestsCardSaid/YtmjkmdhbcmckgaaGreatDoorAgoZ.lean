
import Derived.Test.YtmjkmdhbcmckgaaGreatDoorAgoW
set_option linter.all false
namespace Go.Ago
open Go
variable {α β:Type}{h h' h0:AHeap}{X:Nat→Prop}
def Cl (h:AHeap)(a:Addr)(vs:List Value)(g:Nat):Prop :=
 a.spot=none∧∃ c base e,h.get a.block=some (.cells c g base e)∧a.off+vs.length≤c.length∧(c.drop a.off).take vs.length=vs
theorem Cl.fr {a:Addr}{vs:List Value}{g:Nat}(c:Cl h a vs g)(f:Fr X h h')(hx:X g→g=0):Cl h' a vs g:=by
 obtain⟨h1,c,base,e,h2,h3,h4⟩:=c
 exact⟨h1,c,base,e,f.cells _ _ _ _ _ h2 hx,h3,h4⟩
theorem Cl.get {a:Addr}{vs:List Value}{g o:Nat}{v:Value}(c:Cl h a vs g)(hv:vs[o]?=some v){l:Leaf}{x:l.den}(hx:unL l v=some x):h.ld l a.block (a.off+o)=some x:=by
 obtain⟨h1,c,base,e,h2,h3,h4⟩:=c
 unfold AHeap.ld
 rw [h2]
 have:c[a.off+o]?=some v:=by
  rw [← h4,List.getElem?_take] at hv
  split at hv
  ·rwa [List.getElem?_drop] at hv
  ·cases hv
 simp only [this];exact hx
theorem Cl.ld {a:Addr}{vs:List Value}{g:Nat}(c:Cl h a vs g){o:Nat}{v:Value}(hv:vs[o]?=some v){l:Leaf}{x:l.den}(hx:unL l v=some x){f:l.den→M β}{Q:β→AHeap→Prop}
  (q:Wp (f x) h Q):Wp (M.bind (ldL l (a.plus o)) f) h Q:=by
 rw [Wp_bind,Wp_ldL]
 exact⟨x,c.get hv hx,q⟩
theorem Cl.ld0 {a:Addr}{vs:List Value}{g:Nat}(c:Cl h a vs g){v:Value}(hv:vs[0]?=some v){l:Leaf}{x:l.den}(hx:unL l v=some x){f:l.den→M β}{Q:β→AHeap→Prop}
  (q:Wp (f x) h Q):Wp (M.bind (ldL l a) f) h Q:=by
 rw [Wp_bind,Wp_ldL]
 exact⟨x,c.get hv hx,q⟩
theorem Cl.lds {a:Addr}{vs:List Value}{g:Nat}(c:Cl h a vs g){ls:List Leaf}{x:LsDen ls}(hx:unLs ls vs=some x){f:LsDen ls→M β}{Q:β→AHeap→Prop}
  (q:Wp (f x) h Q) (hl:ls.length=vs.length:=by rfl):Wp (M.bind (ldLs ls a) f) h Q:=by
 rw [Wp_bind,Wp_ldLs]
 refine⟨x,?_,q⟩
 obtain⟨h1,c,base,e,h2,h3,h4⟩:=c
 unfold AHeap.lds
 rw [h2]
 simp only
 rw [hl,if_pos h3,h4];exact hx
def RSl (h:AHeap)(s:Sl)(sz:Nat)(cs:List Value)(g:Nat):Prop :=
 cs.length=s.len * sz∧(s.len=0∨∃ a,s.a=some a∧Cl h a cs g)
theorem RSl.fr {s:Sl}{sz:Nat}{cs:List Value}{g:Nat}(r:RSl h s sz cs g)(f:Fr X h h')(hx:X g→g=0):RSl h' s sz cs g:=by
 refine⟨r.1,?_⟩
 rcases r.2 with h1 | ⟨a,h1,h2⟩
 ·exact .inl h1
 ·exact .inr ⟨a,h1,h2.fr f hx⟩
theorem OSl.rsl {s:Sl}{sz:Nat}{e:TypeId}{cs:List Value}{g:Nat}(o:OSl h s sz e cs g):RSl h s sz cs g:=by
 refine⟨o.1,?_⟩
 rcases o.2 with ⟨rfl,_⟩ | ⟨_,_,_,b,base,h1,h2,_⟩
 ·exact .inl rfl
 ·exact .inr ⟨_,h1,rfl,cs,base,e,h2,by simp,by simp⟩
theorem LB.rsl {b n cap sz:Nat}{cs:List Value}{e:TypeId}(l:LB h b cs e)(hn:cs.length=n * sz):RSl h ⟨some ⟨b,0,none⟩,n,cap⟩ sz cs (b+1) :=
 ⟨hn,.inr ⟨_,rfl,rfl,cs,0,e,l.get,by simp,by simp⟩⟩
theorem RSl.nil {s:Sl}{sz:Nat}(hs:s.len=0):RSl h s sz [] 0:=⟨by simp [hs],.inl hs⟩
theorem RSl.ix {s:Sl}{sz:Nat}{cs:List Value}{g:Nat}(r:RSl h s sz cs g){k:Int}(h1:0≤k)(h2:k<s.len){f:Addr→M β}{Q:β→AHeap→Prop}
  (q:∀ a,Cl h a ((cs.drop (k.toNat * sz)).take sz) g→Wp (f a) h Q):Wp (M.bind (idxA s k sz) f) h Q:=by
 rcases r.2 with h3 | ⟨a,h3,h4,c,base,e,h5,h6,h7⟩
 ·omega
 rw [Wp_bind,Wp_idxA]
 refine⟨a,h3,h1,h2,q _ ⟨rfl,c,base,e,h5,?_,?_⟩⟩
 ·show a.off+k.toNat * sz+_≤_
  rw [List.length_take,List.length_drop]
  have hk:k.toNat+1≤s.len:=by omega
  have:=Nat.mul_le_mul_right sz hk
  rw [Nat.add_mul,Nat.one_mul] at this
  have:=r.1
  omega
 ·show (c.drop (a.off+k.toNat * sz)).take _=_
  have hk:k.toNat+1≤s.len:=by omega
  have hm:=Nat.mul_le_mul_right sz hk
  rw [Nat.add_mul,Nat.one_mul] at hm
  have hl:=r.1
  have hlen:((cs.drop (k.toNat * sz)).take sz).length=sz:=by rw [List.length_take,List.length_drop];omega
  rw [hlen]
  conv=>rhs;rw [← h7]
  rw [← List.drop_drop,List.drop_take,List.take_take]
  congr 1
  omega
theorem take1 {γ:Type}{enc:γ→Value}{xs:List γ}{i:Nat}{v:γ}(hv:xs[i]?=some v):(((xs.map enc).drop (i * 1)).take 1)=[enc v]:=by
 rw [Nat.mul_one]
 have hlt:=(List.getElem?_eq_some_iff.1 hv).1
 rw [List.drop_eq_getElem_cons (by simpa using hlt)]
 simp [(List.getElem?_eq_some_iff.1 hv).2]
theorem RSl.ix1 {γ:Type}{enc:γ→Value}{xs:List γ}{s:Sl}{g:Nat}(r:RSl h s 1 (xs.map enc) g){k:Int}{v:γ}(h1:0≤k)(hv:xs[k.toNat]?=some v){f:Addr→M β}{Q:β→AHeap→Prop}
  (q:∀ a,Cl h a [enc v] g→Wp (f a) h Q):Wp (M.bind (idxA s k 1) f) h Q:=by
 have hlt:=(List.getElem?_eq_some_iff.1 hv).1
 have hl:=r.1
 rw [List.length_map,Nat.mul_one] at hl
 refine r.ix h1 (by omega) fun a c=>q a ?_
 rw [take1 hv] at c;exact c
theorem RSl.ixN {γ:Type}{enc:γ→List Value}{sz:Nat}(he:∀ x,(enc x).length=sz){xs:List γ}{s:Sl}{g:Nat}(r:RSl h s sz (xs.flatMap enc) g){k:Int}{v:γ}(h1:0≤k)(h2:k<s.len)(hv:xs[k.toNat]?=some v)
  {f:Addr→M β} {Q:β→AHeap→Prop} (q:∀ a,Cl h a (enc v) g→Wp (f a) h Q):Wp (M.bind (idxA s k sz) f) h Q:=by
 refine r.ix h1 h2 fun a c=>q a ?_
 rw [flat_take he hv] at c;exact c
theorem RSl.len1 {γ:Type}{enc:γ→Value}{xs:List γ}{s:Sl}{g:Nat}(r:RSl h s 1 (xs.map enc) g):s.len=xs.length:=by
 have hl:=r.1
 rw [List.length_map,Nat.mul_one] at hl
 exact hl.symm
def PSl (h:AHeap)(s:Sl)(sz:Nat)(e:TypeId)(cs:List Value)(g:Nat):Prop :=
 cs.length=s.len * sz∧((s=⟨none,0,0⟩∧g=0)∨(0<g∧g≤h.next∧s.cap=0∧∃ b base c,s.a=some ⟨b,0,none⟩∧h.get b=some (.cells c g base e)∧c.take cs.length=cs))
theorem PSl.nil {sz:Nat}{e:TypeId}:PSl h ⟨none,0,0⟩ sz e [] 0:=⟨by simp,.inl ⟨rfl,rfl⟩⟩
theorem PSl.fr {s:Sl}{sz:Nat}{e:TypeId}{cs:List Value}{g:Nat}(o:PSl h s sz e cs g)(f:Fr X h h')(hg:X g→g=0):PSl h' s sz e cs g:=by
 obtain⟨h1,h2⟩:=o
 refine⟨h1,?_⟩
 rcases h2 with h2 | ⟨h2,h3,h4,b,base,c,h5,h6,h7⟩
 ·exact .inl h2
 ·exact .inr ⟨h2,Nat.le_trans h3 f.next,h4,b,base,c,h5,f.cells _ _ _ _ _ h6 hg,h7⟩
theorem PSl.le {s:Sl}{sz:Nat}{e:TypeId}{cs:List Value}{g:Nat}(o:PSl h s sz e cs g):g≤h.next:=by
 obtain⟨_,h2⟩:=o
 rcases h2 with ⟨_,h2⟩ | ⟨h2,h3,_⟩ <;> omega
theorem take_le {γ:Type}{c cs:List γ}(hc:c.take cs.length=cs):cs.length≤c.length:=by
 have:=congrArg List.length hc
 rw [List.length_take] at this;omega
theorem PSl.rsl {s:Sl}{sz:Nat}{e:TypeId}{cs:List Value}{g:Nat}(o:PSl h s sz e cs g):RSl h s sz cs g:=by
 refine⟨o.1,?_⟩
 rcases o.2 with ⟨rfl,_⟩ | ⟨_,_,_,b,base,c,h1,h2,h3⟩
 ·exact .inl rfl
 ·exact .inr ⟨_,h1,rfl,c,base,e,h2,by simpa using take_le h3,by simpa using h3⟩
theorem PSl.app {s : Sl} {sz : Nat} {e : TypeId} {cs new : List Value} {g n : Nat} {Q : Sl → AHeap → Prop} (o : PSl h s sz e cs g) (hw : WF h) (hn : n ≠ 0) (hl : new.length = n * sz) (hb : s.len + n ≤ bigN)
    (hq : ∀ s' h' g', s'.len = s.len + n → PSl h' s' sz e (cs ++ new) g' → (g' = g ∧ g ≠ 0 ∨ g' = h.next + 1) → Fr (· = g) h h' → Q s' h') : Wp (Ago.app false s sz e n new) h Q := by
  obtain ⟨h1, h2⟩ := o
  have hnx := hw.get h.next (Nat.le_refl _)
  have key : Ago.app false s sz e n new h = app0 false s sz e n new h := by unfold Ago.app; simp
  suffices hh : ∃ s' h' , app0 false s sz e n new h = some (s', h') ∧ Q s' h' by
    obtain ⟨s', h', e1, e2⟩ := hh
    exact ⟨s', h', by rw [key]; exact e1, e2⟩
  rcases h2 with ⟨rfl, rfl⟩ | ⟨h2, h3, h4, b, base, c, h5, h6, h7⟩
  · have hc : cs = [] := List.eq_nil_of_length_eq_zero (by simpa using h1)
    subst hc
    refine ⟨_, _, ?_, hq ⟨some ⟨h.next, 0, none⟩, n, 0⟩ (h.new e new) (h.next + 1) (by simp) ⟨by simp [hl], .inr ⟨by omega, by simp [AHeap.new, AHeap.putB], rfl, h.next, 0, new, rfl, putB_get_self, List.take_length⟩⟩ (.inr rfl) ((Fr.new hw).mono hw (fun _ hx _ => hx.elim))⟩
    unfold app0
    rw [if_neg hn]
    simp only [Nat.zero_add] at hb ⊢
    rw [if_neg (by simp [hb, hl])]
    simp
  · have hle := take_le h7
    have hcells : cellsAt h (some ⟨b, 0, none⟩) (s.len * sz) = some cs := by simp [cellsAt, h6, ← h1, h7, hle]
    by_cases ht : h.tip g = base + 0 + s.len * sz
    · refine ⟨⟨some ⟨h.next, 0, none⟩, s.len + n, 0⟩, { h with
              get := fun j => cond (Nat.beq j h.next) (some (.cells (cs ++ new) g (base + 0) e)) (h.get j)
              next := h.next + 1
              tip := fun g' => cond (Nat.beq g' g) (base + 0 + s.len * sz + new.length) (h.tip g')
              used := fun j => cond (Nat.beq j h.next) true (h.used j) }, ?_, hq _ _ g rfl ?_ (.inl ⟨rfl, by omega⟩) ?_⟩
      · unfold app0
        rw [if_neg hn, if_neg (by simp [hb, hl]), h5]
        simp only [hcells, h6]
        rw [if_neg (by simp [h4]), if_neg (by simp [h4])]
        rw [if_pos ⟨by omega, trivial⟩]
        rw [if_pos ht]
      · exact ⟨by simp [h1, hl, Nat.add_mul], .inr ⟨h2, by simp; omega, rfl, h.next, base + 0, cs ++ new, rfl, by simp [beq_self], List.take_length⟩⟩
      · refine ⟨⟨fun j hj => ?_, fun j hj => ?_, fun j c g' b' e' hj => ?_, fun j hj => hw.maps j (by simp at hj; omega)⟩, Nat.le_succ _, ?_, ?_, ?_, ?_, fun _ _ e _ => e⟩
        · simp at hj; simp [beq_ne (show j ≠ h.next by omega)]; exact hw.get j (by omega)
        · simp at hj; simp [beq_ne (show j ≠ h.next by omega)]; exact hw.used j (by omega)
        · simp only at hj
          by_cases hjn : j = h.next
          · subst hjn; simp [beq_self] at hj; simp; omega
          · simp [beq_ne hjn] at hj; have := hw.grp _ _ _ _ _ hj; simp; omega
        · intro j c g' b' e' hj _
          have : j ≠ h.next := fun hjn => by subst hjn; rw [hnx] at hj; cases hj
          simp [beq_ne this]; exact hj
        · intro g' _ hx
          have : g' ≠ g := fun hx2 => by have := hx hx2; omega
          simp [beq_ne this]
        · intro j hj; simp [beq_ne (show j ≠ h.next by omega)]
        · intro j hj hx; simp [beq_ne (show j ≠ h.next by omega)]; exact hx
    · refine ⟨⟨some ⟨h.next, 0, none⟩, s.len + n, 0⟩, { h with
              get := fun j => cond (Nat.beq j h.next) (some (.cells (cs ++ new) g (base + 0) e)) (match h.get j with
                | some (.cells c' g' base' elem') => cond (Nat.beq g' g && Nat.blt (base + 0 + s.len * sz) (base' + c'.length)) none (some (.cells c' g' base' elem'))
                | o => o)
              next := h.next + 1
              tip := fun g' => cond (Nat.beq g' g) (base + 0 + s.len * sz + new.length) (h.tip g')
              used := fun j => cond (Nat.beq j h.next) true (h.used j) }, ?_, hq _ _ g rfl ?_ (.inl ⟨rfl, by omega⟩) ?_⟩
      · unfold app0
        rw [if_neg hn, if_neg (by simp [hb, hl]), h5]
        simp only [hcells, h6]
        rw [if_neg (by simp [h4]), if_neg (by simp [h4])]
        rw [if_pos ⟨by omega, trivial⟩]
        rw [if_neg ht, if_pos trivial]
        rfl
      · exact ⟨by simp [h1, hl, Nat.add_mul], .inr ⟨h2, by simp; omega, rfl, h.next, base + 0, cs ++ new, rfl, by simp [beq_self], List.take_length⟩⟩
      · refine ⟨⟨fun j hj => ?_, fun j hj => ?_, fun j c g' b' e' hj => ?_, fun j hj => hw.maps j (by simp at hj; omega)⟩, Nat.le_succ _, ?_, ?_, ?_, ?_, fun _ _ e _ => e⟩
        · simp at hj; simp [beq_ne (show j ≠ h.next by omega), hw.get j (by omega)]
        · simp at hj; simp [beq_ne (show j ≠ h.next by omega)]; exact hw.used j (by omega)
        · simp only at hj
          by_cases hjn : j = h.next
          · subst hjn; simp [beq_self] at hj; simp; omega
          · simp only [beq_ne hjn, cond_false] at hj
            cases hgj : h.get j with
            | none => rw [hgj] at hj; cases hj
            | some o =>
              rw [hgj] at hj
              cases o with
              | cells c2 g2 b2 e2 =>
                simp only at hj
                cases hq2 : (Nat.beq g2 g && Nat.blt (base + 0 + s.len * sz) (b2 + c2.length)) with
                | true => rw [hq2] at hj; cases hj
                | false =>
                  rw [hq2] at hj
                  simp only [cond_false, Option.some.injEq] at hj
                  cases hj
                  have := hw.grp _ _ _ _ _ hgj; simp; omega
              | _ => cases hj
        · intro j c g' b' e' hj hx
          have hjn : j ≠ h.next := fun hjn => by subst hjn; rw [hnx] at hj; cases hj
          have : Nat.beq g' g = false := by
            refine beq_ne fun e => ?_
            have := hx e; omega
          simp only [beq_ne hjn, cond_false, hj, this, Bool.false_and]
        · intro g' _ hx
          have : g' ≠ g := fun hx2 => by have := hx hx2; omega
          simp [beq_ne this]
        · intro j hj; simp [beq_ne (show j ≠ h.next by omega)]
        · intro j hj hx; simp [beq_ne (show j ≠ h.next by omega), hx]
theorem PSl.cut {e:TypeId}{s:Sl}{cs:List Value}{v:Value}{g:Nat}{β:Type}{f:Sl→M β}{Q:β→AHeap→Prop}(o:PSl h s 1 e (cs++[v]) g)(q:∀ s',s'.len=cs.length→PSl h s' 1 e cs g→Wp (f s') h Q) :
  Wp (M.bind (sliceL s 0 (((s.len:Nat):Int) - 1) e 1) f) h Q:=by
 obtain⟨h1,h2⟩:=o
 rw [List.length_append,Nat.mul_one] at h1
 simp at h1
 rcases h2 with ⟨rfl,_⟩ | ⟨h2,h3,h4,b,base,c,h5,h6,h7⟩
 ·simp at h1
 rw [Wp_bind]
 refine Wp_sliceL (by omega) (by omega) (by omega) (by simp [elemOk,h5,h6]) (q _ (by simp;omega) ⟨by simp;omega,.inr ⟨h2,h3,by simp [h4],b,base,c,by simp [h5,Addr.plus],h6,?_⟩⟩)
 have:=congrArg (List.take cs.length) h7
 rw [List.take_take] at this
 simpa [Nat.min_eq_left] using this
inductive Own where
 | blk (b:Nat) (cs:List Value) (e:TypeId)
 | sl (s:Sl) (sz:Nat) (e:TypeId) (cs:List Value) (g:Nat)
 | map (m:Nat) (kt:TypeId) (f:Value→Option Value) (n:Nat)
 | ps (s:Sl) (sz:Nat) (e:TypeId) (cs:List Value) (g:Nat)
 | free (k:Nat)
def Free (h:AHeap)(k:Nat):Prop:=h.used k=false∧k<h.next∧h.get k=none
theorem Free.fr {k:Nat}(f:Free h k)(r:Fr X h h'):Free h' k:=⟨by rw [r.used k f.2.1];exact f.1,Nat.lt_of_lt_of_le f.2.1 r.next,r.none k f.2.1 f.2.2⟩
def Own.ok (h:AHeap):Own→Prop
 | .blk b cs e=>LB h b cs e
 | .sl s sz e cs g=>OSl h s sz e cs g
 | .map m kt f n=>MB h m kt f n
 | .ps s sz e cs g=>PSl h s sz e cs g
 | .free k=>Free h k
def Own.grp:Own→Nat
 | .blk b _ _=>b+1
 | .sl _ _ _ _ g=>g
 | .map m _ _ _=>m+1
 | .ps _ _ _ _ g=>g
 | .free k=>k+1
theorem Own.ok_fr {o:Own}(hk:o.ok h)(f:Fr X h h')(hx:X o.grp→o.grp=0):o.ok h':=by
 cases o with
 | blk b cs e=>exact LB.fr hk f (fun hx2=>by have:=hx hx2;simp [Own.grp] at this)
 | sl s sz e cs g=>exact OSl.fr hk f hx
 | map m kt fn n=>exact MB.fr hk f (fun hx2=>by have:=hx hx2;simp [Own.grp] at this)
 | ps s sz e cs g=>exact PSl.fr hk f hx
 | free k=>exact Free.fr hk f
theorem Own.le {o:Own}(hk:o.ok h)(hw:WF h):o.grp≤h.next:=by
 cases o with
 | blk b cs e=>exact LB.lt hk hw
 | sl s sz e cs g=>exact OSl.le hk
 | map m kt fn n=>exact MB.lt hk hw
 | ps s sz e cs g=>exact PSl.le hk
 | free k=>exact hk.2.1
structure Z (h0 h:AHeap) (L:List Own):Prop where
 wf0:WF h0
 fr:Fr (fun _=>False) h0 h
 own:∀ o ∈ L,o.ok h∧(o.grp=0∨h0.next<o.grp)
 dist:L.Pairwise fun a b=>a.grp=b.grp→a.grp=0
variable {L:List Own}
theorem Z.start (hw:WF h):Z h h []:=⟨hw,Fr.refl hw,by simp,.nil⟩
theorem Z.wf (z:Z h0 h L):WF h:=z.fr.wf
theorem Z.step (z:Z h0 h L)(f:Fr X h h')(hx:∀ g,X g→g≠0→h0.next<g)(ho:∀ o ∈ L,X o.grp→o.grp=0):Z h0 h' L :=
 ⟨z.wf0,z.fr.trans z.wf0 f fun g hg h0=>.inr (hx g hg h0),fun o hm=>⟨Own.ok_fr (z.own o hm).1 f (ho o hm),(z.own o hm).2⟩,z.dist⟩
theorem Z.pure (z:Z h0 h L)(f:Fr (fun _=>False) h h'):Z h0 h' L:=z.step f (fun _ hx=>hx.elim) fun _ _ hx=>hx.elim
theorem Z.add (z:Z h0 h L)(f:Fr (fun _=>False) h h'){o:Own}(hk:o.ok h')(hg:o.grp=0∨h.next<o.grp):Z h0 h' (o::L):=by
 have z1:=z.pure f
 have hle:=z.fr.next
 refine⟨z.wf0,z1.fr,fun x hx=>?_,.cons (fun x hx he=>?_) z1.dist⟩
 ·rcases List.mem_cons.1 hx with rfl | hx
  ·exact⟨hk,hg.imp id fun h1=>by omega⟩
  ·exact z1.own x hx
 ·rcases hg with hg | hg
  ·exact hg
  ·have:=Own.le (z.own x hx).1 z.wf
   omega
theorem Z.drop {o:Own}(z:Z h0 h (o::L)):Z h0 h L:=⟨z.wf0,z.fr,fun x hx=>z.own x (List.mem_cons_of_mem _ hx),(List.pairwise_cons.1 z.dist).2⟩
theorem Z.sub {L':List Own}(z:Z h0 h L)(hs:L'.Sublist L):Z h0 h L':=⟨z.wf0,z.fr,fun x hx=>z.own x (hs.subset hx),z.dist.sublist hs⟩
theorem Z.get (z:Z h0 h L)(i:Nat){o:Own}(hi:L[i]?=some o):o.ok h:=(z.own o (List.mem_of_getElem? hi)).1
theorem pw_set {γ:Type}{R:γ→γ→Prop}(hsym:∀ a b,R a b→R b a):∀ {l:List γ} {i:Nat} {x:γ},l.Pairwise R→(∀ j y,l[j]?=some y→j≠i→R x y)→(l.set i x).Pairwise R
 | [],i,x,_,_=>by simp
 | a::l,0,x,hp,hx=>by
  rw [List.set_cons_zero]
  refine .cons (fun y hy=>?_) (List.pairwise_cons.1 hp).2
  obtain⟨j,hj⟩:=List.mem_iff_getElem?.1 hy
  exact hx (j+1) y (by simpa using hj) (by omega)
 | a::l,i+1,x,hp,hx=>by
  rw [List.set_cons_succ]
  obtain⟨h1,h2⟩:=List.pairwise_cons.1 hp
  refine .cons (fun y hy=>?_) (pw_set hsym h2 fun j y hj hne=>hx (j+1) y (by simpa using hj) (by omega))
  rcases List.mem_or_eq_of_mem_set hy with hy | hy
  ·exact h1 y hy
  ·subst hy;exact hsym _ _ (hx 0 a rfl (by omega))
theorem pw_get {γ:Type}{R:γ→γ→Prop}(hsym:∀ a b,R a b→R b a):∀ {l:List γ} {i j:Nat} {x y:γ},l.Pairwise R→l[i]?=some x→l[j]?=some y→i≠j→R x y
 | [],i,j,x,y,_,hi,_,_=>by simp at hi
 | a::l,0,0,x,y,_,_,_,hn=>absurd rfl hn
 | a::l,0,j+1,x,y,hp,hi,hj,_=>by
  simp at hi hj;subst hi
  exact (List.pairwise_cons.1 hp).1 y (List.mem_of_getElem? hj)
 | a::l,i+1,0,x,y,hp,hi,hj,_=>by
  simp at hi hj;subst hj
  exact hsym _ _ ((List.pairwise_cons.1 hp).1 x (List.mem_of_getElem? hi))
 | a::l,i+1,j+1,x,y,hp,hi,hj,hn=>pw_get hsym (List.pairwise_cons.1 hp).2 (by simpa using hi) (by simpa using hj) (by omega)
theorem grp_sym (a b:Own)(hr:a.grp=b.grp→a.grp=0):b.grp=a.grp→b.grp=0:=fun e=>by rw [e];exact hr e.symm
theorem Z.upd (z:Z h0 h L){i:Nat}{o o':Own}(hi:L[i]?=some o)(ho:o.grp≠0)(f:Fr (·=o.grp) h h')(hk:o'.ok h')(hg:o'.grp=o.grp∨o'.grp=0∨h.next<o'.grp):Z h0 h' (L.set i o'):=by
 have hmem:=List.mem_of_getElem? hi
 have hfresh:h0.next<o.grp:=(z.own o hmem).2.resolve_left ho
 have hothers:∀ j y,L[j]?=some y→j≠i→y.grp≠o.grp:=fun j y hj hne e=>ho (by rw [← e];exact pw_get grp_sym z.dist hj hi hne e)
 refine⟨z.wf0,z.fr.trans z.wf0 f fun g hg h0=>.inr (by rw [hg];exact hfresh),fun x hx=>?_,pw_set grp_sym z.dist fun j y hj hne e=>?_⟩
 ·obtain⟨j,hj⟩:=List.mem_iff_getElem?.1 hx
  rw [List.getElem?_set] at hj
  split at hj
  ·split at hj
   ·cases hj
    refine⟨hk,?_⟩
    rcases hg with hg | hg | hg
    ·exact .inr (by rw [hg];exact hfresh)
    ·exact .inl hg
    ·exact .inr (Nat.lt_of_le_of_lt z.fr.next hg)
   ·cases hj
  ·rename_i hne
   have hmy:=List.mem_of_getElem? hj
   exact⟨Own.ok_fr (z.own x hmy).1 f fun e=>absurd e (hothers j x hj fun e2=>hne e2.symm),(z.own x hmy).2⟩
 ·rcases hg with hg | hg | hg
  ·exact absurd (e.symm.trans hg) (hothers j y hj hne)
  ·exact hg
  ·have:=Own.le (z.own y (List.mem_of_getElem? hj)).1 z.wf
   omega
theorem Z.perm {L':List Own}(z:Z h0 h L)(hp:L.Perm L'):Z h0 h L':=⟨z.wf0,z.fr,fun x hx=>z.own x (hp.mem_iff.2 hx),(hp.pairwise_iff fun {a b}=>grp_sym a b).1 z.dist⟩
theorem Z.new (z:Z h0 h L){e:TypeId}{cs:List Value}{f:Nat→M β}{Q:β→AHeap→Prop}
  (q:∀ b h',Z h0 h' (.blk b cs e::L)→Fr (fun _=>False) h h'→Wp (f b) h' Q) (hs:cs.all scal=true:=by rfl):Wp (M.bind (newB none e cs) f) h Q:=by
 rw [Wp_bind,Wp_new]
 have hf:=Fr.new (e:=e) (cs:=cs) z.wf
 exact⟨hs,q _ _ (z.add hf (o:=.blk h.next cs e) LB.new (.inr (Nat.lt_succ_self _))) hf⟩
theorem Z.mkA (z:Z h0 h L){e:TypeId}{c:List Value}{n:Int}{f:Sl→M β}{Q:β→AHeap→Prop}(h1:0≤n)(h2:n≤bigN)
  (q:∀ b h',Z h0 h' (.blk b (List.replicate n.toNat c).flatten e::L)→Fr (fun _=>False) h h'→Wp (f ⟨some ⟨b,0,none⟩,n.toNat,n.toNat+1⟩) h' Q) (hs:c.all scal=true:=by rfl):Wp (M.bind (mkS none e c n n) f) h Q:=by
 rw [Wp_bind]
 refine Wp_mkS h1 (Int.le_refl _) h2 ?_ hs
 have hf:=Fr.new (e:=e) (cs:=(List.replicate n.toNat c).flatten) z.wf
 exact q _ _ (z.add hf (o:=.blk h.next _ e) LB.new (.inr (Nat.lt_succ_self _))) hf
theorem LB.cl {b:Nat}{cs:List Value}{e:TypeId}(l:LB h b cs e):Cl h ⟨b,0,none⟩ cs (b+1):=⟨rfl,cs,0,e,l.get,by simp,by simp⟩
theorem Z.cl (z:Z h0 h L)(i:Nat){b:Nat}{cs:List Value}{e:TypeId}(hi:L[i]?=some (.blk b cs e)):Cl h ⟨b,0,none⟩ cs (b+1):=LB.cl (z.get i hi)
theorem Z.ld (z:Z h0 h L)(i:Nat){b o:Nat}{cs:List Value}{e:TypeId}{l:Leaf}{v:Value}{x:l.den}{f:l.den→M β}{Q:β→AHeap→Prop}
  (q:Wp (f x) h Q) (hi:L[i]?=some (.blk b cs e):=by rfl) (hv:cs[o]?=some v:=by rfl) (hx:unL l v=some x:=by rfl):Wp (M.bind (ldL l ⟨b,o,none⟩) f) h Q:=by
 rw [Wp_bind,Wp_ldL]
 exact⟨x,LB.ld (z.get i hi) hv hx,q⟩
theorem Z.lds (z:Z h0 h L)(i:Nat){b:Nat}{cs:List Value}{e:TypeId}{ls:List Leaf}{x:LsDen ls}{f:LsDen ls→M β}{Q:β→AHeap→Prop}
  (q:Wp (f x) h Q) (hi:L[i]?=some (.blk b cs e):=by rfl) (hx:unLs ls cs=some x:=by rfl) (hl:ls.length=cs.length:=by rfl):Wp (M.bind (ldLs ls ⟨b,0,none⟩) f) h Q :=
 (z.cl i hi).lds hx q hl
theorem Z.st (z:Z h0 h L)(i:Nat){b o:Nat}{cs vs cs':List Value}{e:TypeId}{f:Unit→M β}{Q:β→AHeap→Prop}
  (q:∀ h',Z h0 h' (L.set i (.blk b cs' e))→Wp (f ()) h' Q) (hi:L[i]?=some (.blk b cs e):=by rfl) (hc:splice cs o vs=cs':=by rfl) (ho:o+vs.length≤cs.length:=by first | decide | simp) (hs:vs.all scal=true:=by rfl) :
  Wp (M.bind (stN ⟨b,o,none⟩ vs) f) h Q:=by
 rw [Wp_bind]
 have l:LB h b cs e:=z.get i hi
 refine l.st z.wf ho hs fun h' l' fr=>q h' (z.upd (o:=.blk b cs e) hi (by simp [Own.grp]) fr ?_ (.inl rfl))
 rw [← hc];exact l'
theorem Z.call (z:Z h0 h L){m:M α}{P:α→AHeap→Prop}{f:α→M β}{Q:β→AHeap→Prop}(hm:Wp m h fun r h'=>P r h'∧Fr (fun _=>False) h h')
  (q:∀ r h',P r h'→Fr (fun _=>False) h h'→Z h0 h' L→Wp (f r) h' Q):Wp (M.bind m f) h Q:=by
 rw [Wp_bind]
 exact hm.mono fun r h' ⟨hp,hf⟩=>q r h' hp hf (z.pure hf)
theorem splice_map {γ:Type}{enc:γ→Value}{xs:List γ}{k:Nat}{v:γ}(hk:k<xs.length):splice (xs.map enc) k [enc v]=(xs.set k v).map enc:=by
 unfold splice
 rw [List.map_set,List.set_eq_take_append_cons_drop,if_pos (by simpa using hk)]
 simp
theorem Z.stA (z:Z h0 h L)(i:Nat){γ:Type}{enc:γ→Value}{xs:List γ}{b k:Nat}{e:TypeId}{v:γ}{f:Unit→M β}{Q:β→AHeap→Prop}(hk:k<xs.length)
  (q:∀ h',Z h0 h' (L.set i (.blk b ((xs.set k v).map enc) e))→Wp (f ()) h' Q) (hi:L[i]?=some (.blk b (xs.map enc) e):=by rfl) (hs:scal (enc v)=true:=by rfl):Wp (M.bind (stN ⟨b,k,none⟩ [enc v]) f) h Q :=
 z.st i (fun h' z'=>q h' z') hi (splice_map hk) (by simp;omega) (by simp [hs])
theorem ixB {b n cap:Nat}{k:Int}{sz:Nat}(h1:0≤k)(h2:k<(n:Int)){f:Addr→M β}{Q:β→AHeap→Prop}(q:Wp (f ⟨b,k.toNat * sz,none⟩) h Q):Wp (M.bind (idxA ⟨some ⟨b,0,none⟩,n,cap⟩ k sz) f) h Q:=by
 rw [Wp_bind,Wp_idxA]
 refine⟨_,rfl,h1,h2,?_⟩
 unfold Addr.plus
 simp only [Nat.zero_add]
 exact q
theorem Z.appP (z:Z h0 h L)(i:Nat){s:Sl}{sz n:Nat}{e:TypeId}{cs new:List Value}{g:Nat}{f:Sl→M β}{Q:β→AHeap→Prop}(hi:L[i]?=some (.ps s sz e cs g))(hn:n≠0)(hl:new.length=n * sz)(hb:s.len+n≤bigN)
  (q:∀ s' h' g',s'.len=s.len+n→Z h0 h' (L.set i (.ps s' sz e (cs++new) g'))→Fr (·=g) h h'→Wp (f s') h' Q):Wp (M.bind (Ago.app false s sz e n new) f) h Q:=by
 rw [Wp_bind]
 have o:PSl h s sz e cs g:=z.get i hi
 refine o.app z.wf hn hl hb fun s' h' g' h1 h2 h3 h4=>q s' h' g' h1 ?_ h4
 by_cases hg:g=0
 ·have h3:=h3.resolve_left (fun x=>x.2 hg)
  have f0:Fr (fun _=>False) h h':=⟨h4.wf,h4.next,fun j c g2 b e2 hj _=>h4.cells j c g2 b e2 hj fun e3=>by rw [e3,hg],fun g2 h5 _=>h4.tip g2 h5 fun e3=>by rw [e3,hg],h4.used,h4.none,fun j x hj _=>h4.maps j x hj (by omega)⟩
  have z1:=z.add f0 (o:=.ps s' sz e (cs++new) g') h2 (.inr (by simp only [Own.grp];omega))
  refine⟨z1.wf0,z1.fr,fun x hx=>z1.own x ?_,pw_set grp_sym (List.pairwise_cons.1 z1.dist).2 fun j y hj hne e2=>(List.pairwise_cons.1 z1.dist).1 y (List.mem_of_getElem? hj) e2⟩
  rcases List.mem_or_eq_of_mem_set hx with hx | rfl
  ·exact List.mem_cons_of_mem _ hx
  ·exact List.mem_cons_self
 ·refine z.upd (o:=.ps s sz e cs g) hi hg h4 h2 ?_
  rcases h3 with h3 | h3
  ·exact .inl h3.1
  ·exact .inr (.inr (by simp only [Own.grp];omega))
theorem Z.cutP (z:Z h0 h L)(i:Nat){s:Sl}{e:TypeId}{cs:List Value}{v:Value}{g:Nat}{f:Sl→M β}{Q:β→AHeap→Prop}(hi:L[i]?=some (.ps s 1 e (cs++[v]) g))
  (q:∀ s',s'.len=cs.length→Z h0 h (L.set i (.ps s' 1 e cs g))→Wp (f s') h Q):Wp (M.bind (sliceL s 0 (((s.len:Nat):Int) - 1) e 1) f) h Q:=by
 have o:PSl h s 1 e (cs++[v]) g:=z.get i hi
 refine o.cut fun s' h1 h2=>q s' h1 ⟨z.wf0,z.fr,fun x hx=>?_,pw_set grp_sym z.dist fun j y hj hne e2=>pw_get (R:=fun a b:Own=>a.grp=b.grp→a.grp=0) grp_sym z.dist (x:=.ps s 1 e (cs++[v]) g) hi hj (fun e3=>hne e3.symm) e2⟩
 rcases List.mem_or_eq_of_mem_set hx with hx | rfl
 ·exact z.own x hx
 ·exact⟨h2,(z.own _ (List.mem_of_getElem? hi)).2⟩
theorem Z.reserve (z:Z h0 h L){n:Nat}(ks:List Nat){f:Nat→M β}{Q:β→AHeap→Prop}(hk:ks.all (·<n)=true)(hd:ks.Nodup)
  (q:∀ b h',Z h0 h' (ks.map (fun k=>.free (b+k))++L)→Wp (f b) h' Q):Wp (M.bind (Ago.reserve n) f) h Q:=by
 rw [Wp_bind,Wp_reserve]
 have hf:=Fr.reserve (n:=n) z.wf
 have z1:=z.pure hf
 have hkn:∀ k ∈ ks,k<n:=fun k hm=>by simpa using List.all_eq_true.1 hk k hm
 have hle:=z.fr.next
 refine q _ _ ⟨z.wf0,z1.fr,fun o ho=>?_,List.pairwise_append.2 ⟨?_,z1.dist,fun a ha b hb he=>?_⟩⟩
 ·rcases List.mem_append.1 ho with ho | ho
  ·obtain⟨k,hm,rfl⟩:=List.mem_map.1 ho
   have:=hkn k hm
   exact⟨⟨z.wf.used _ (by omega),by simp;omega,z.wf.get _ (by omega)⟩,.inr (by simp only [Own.grp];omega)⟩
  ·exact z1.own o ho
 ·refine List.pairwise_map.2 (hd.imp fun {a b} hne he=>?_)
  simp only [Own.grp] at he;omega
 ·obtain⟨k,hm,rfl⟩:=List.mem_map.1 ha
  have:=Own.le (z.own b hb).1 z.wf
  have he:h.next+k+1=b.grp:=he
  omega
theorem Own.ok_put {o:Own}{k:Nat}{e:TypeId}{cs:List Value}(hk:o.ok h)(hf:Free h k)(hne:o.grp≠k+1):o.ok (h.putB k h.next e cs):=by
 have hb:∀ j c g b e,h.get j=some (.cells c g b e)→j≠k:=fun j c g b e hj hjk=>by subst hjk;rw [hf.2.2] at hj;cases hj
 cases o with
 | blk b cs e=>exact⟨by rw [putB_get_ne (hb _ _ _ _ _ hk.get)];exact hk.get⟩
 | sl s sz e cs g =>
  obtain⟨h1,h2⟩:=hk
  refine⟨h1,?_⟩
  rcases h2 with h2 | ⟨h2,h3,h4,b,base,h5,h6,h7⟩
  ·exact .inl h2
  ·exact .inr ⟨h2,h3,h4,b,base,h5,by rw [putB_get_ne (hb _ _ _ _ _ h6)];exact h6,by rw [putB_tip_ne (show g≠k+1 from hne)];exact h7⟩
 | ps s sz e cs g =>
  obtain⟨h1,h2⟩:=hk
  refine⟨h1,?_⟩
  rcases h2 with h2 | ⟨h2,h3,h4,b,base,c,h5,h6,h7⟩
  ·exact .inl h2
  ·exact .inr ⟨h2,h3,h4,b,base,c,h5,by rw [putB_get_ne (hb _ _ _ _ _ h6)];exact h6,h7⟩
 | map m kt fn n=>exact⟨hk.ex⟩
 | free k2 =>
  have hn:k2≠k:=fun e=>hne (by rw [e];rfl)
  exact⟨by simp [AHeap.putB,beq_ne hn];exact hk.1,hk.2.1,by rw [putB_get_ne hn];exact hk.2.2⟩
theorem Z.put (z:Z h0 h L){i k:Nat}(hi:L[i]?=some (.free k)){e:TypeId}{cs:List Value}:Z h0 (h.putB k h.next e cs) (L.set i (.blk k cs e)):=by
 have hmem:=List.mem_of_getElem? hi
 have hf:Free h k:=(z.own _ hmem).1
 have hg:h0.next<k+1:=(z.own _ hmem).2.resolve_left (by simp [Own.grp])
 have ho:∀ j y,L[j]?=some y→j≠i→y.grp≠k+1:=fun j y hj hne e=>by
  have:=pw_get grp_sym z.dist hj hi hne e
  rw [e] at this;omega
 refine⟨z.wf0,z.fr.putB z.wf0 (by omega) hf.2.1,fun x hx=>?_,pw_set grp_sym z.dist fun j y hj hne e2=>absurd e2.symm (ho j y hj hne)⟩
 obtain⟨j,hj⟩:=List.mem_iff_getElem?.1 hx
 rw [List.getElem?_set] at hj
 split at hj
 ·split at hj
  ·cases hj
   exact⟨⟨putB_get_self⟩,.inr hg⟩
  ·cases hj
 ·rename_i hne
  have hmy:=List.mem_of_getElem? hj
  exact⟨Own.ok_put (z.own x hmy).1 hf (ho j x hj fun e2=>hne e2.symm),(z.own x hmy).2⟩
theorem Z.newAt (z:Z h0 h L)(i:Nat){k:Nat}{e:TypeId}{cs:List Value}{f:Nat→M β}{Q:β→AHeap→Prop}
  (q:∀ h',Z h0 h' (L.set i (.blk k cs e))→Wp (f k) h' Q) (hi:L[i]?=some (.free k):=by rfl) (hs:cs.all scal=true:=by rfl):Wp (M.bind (newB (some k) e cs) f) h Q:=by
 rw [Wp_bind,Wp_newAt]
 have hf:Free h k:=(z.own _ (List.mem_of_getElem? hi)).1
 exact⟨hs,hf.1,hf.2.1,hf.2.2,q _ (z.put hi)⟩
theorem Z.mkAt (z:Z h0 h L)(i:Nat){k:Nat}{e:TypeId}{c:List Value}{n:Int}{f:Sl→M β}{Q:β→AHeap→Prop}(h1:0≤n)(h2:n≤bigN)
  (q:∀ h',Z h0 h' (L.set i (.blk k (List.replicate n.toNat c).flatten e))→Wp (f ⟨some ⟨k,0,none⟩,n.toNat,n.toNat+1⟩) h' Q) (hi:L[i]?=some (.free k):=by rfl) (hs:c.all scal=true:=by rfl):Wp (M.bind (mkS (some k) e c n n) f) h Q:=by
 rw [Wp_bind]
 have hf:Free h k:=(z.own _ (List.mem_of_getElem? hi)).1
 refine Wp_mkSAt h1 (Int.le_refl _) h2 hf.1 hf.2.1 hf.2.2 ?_ hs
 exact q _ (z.put hi)
def Nb (h:AHeap)(j b:Nat):Prop:=∃ c g ba e,h.get j=some (.cells c g ba e)∧g≠b+1
theorem Cl.nb {a:Addr}{vs:List Value}{g b:Nat}(c:Cl h a vs g)(hg:g≠b+1):Nb h a.block b:=by
 obtain⟨_,c,base,e,h2,_⟩:=c
 exact⟨_,_,_,_,h2,hg⟩
theorem Z.nb0 (z:Z h0 h L)(i:Nat){a:Addr}{vs cs:List Value}{g b:Nat}{e:TypeId}(c:Cl h0 a vs g)(hi:L[i]?=some (.blk b cs e)):Nb h a.block b:=by
 have hg:g≤h0.next:=by
  obtain⟨_,c,base,e,h2,_⟩:=c
  exact z.wf0.grp _ _ _ _ _ h2
 have:=(z.own _ (List.mem_of_getElem? hi)).2.resolve_left (by simp [Own.grp])
 simp only [Own.grp] at this
 exact (c.fr z.fr fun hx=>hx.elim).nb (by omega)
theorem Z.nbO (z:Z h0 h L)(i j:Nat){b b2:Nat}{cs cs2:List Value}{e e2:TypeId}(hi:L[i]?=some (.blk b cs e))(hj:L[j]?=some (.blk b2 cs2 e2))(hne:j≠i):Nb h b2 b:=by
 have l:LB h b2 cs2 e2:=z.get j hj
 refine⟨_,_,_,_,l.get,fun e=>?_⟩
 have:=pw_get grp_sym z.dist hj hi hne e
 simp [Own.grp] at this
theorem Z.stC (z:Z h0 h L)(i:Nat){as:List (Option Addr)}{b o:Nat}{cs vs cs':List Value}{e:TypeId}{f:Unit→M β}{Q:β→AHeap→Prop}
  (ha:∀ a,some a ∈ as→Nb h a.block b)
  (q:∀ h',Z h0 h' (L.set i (.blk b cs' e))→Wp (f ()) h' Q) (hi:L[i]?=some (.blk b cs e):=by rfl) (hc:splice cs o vs=cs':=by rfl) (ho:o+vs.length≤cs.length:=by first | decide | simp) (hs:vs.all scal=true:=by rfl) :
  Wp (M.bind (chk as (stN ⟨b,o,none⟩ vs)) f) h Q:=by
 rw [Wp_bind]
 have l:LB h b cs e:=z.get i hi
 refine chk_Wp (l.st z.wf ho hs fun h' l' fr=>⟨fun a hm=>?_,q h' (z.upd (o:=.blk b cs e) hi (by simp [Own.grp]) fr ?_ (.inl rfl))⟩)
 ·obtain⟨c,g,ba,e3,h1,h2⟩:=ha a hm
  rw [h1];exact fr.cells _ _ _ _ _ h1 fun e=>absurd e h2
 ·rw [← hc];exact l'
theorem Z.stAC (z:Z h0 h L)(i:Nat){as:List (Option Addr)}{γ:Type}{enc:γ→Value}{xs:List γ}{b k:Nat}{e:TypeId}{v:γ}{f:Unit→M β}{Q:β→AHeap→Prop}(hk:k<xs.length)
  (ha:∀ a,some a ∈ as→Nb h a.block b)
  (q:∀ h',Z h0 h' (L.set i (.blk b ((xs.set k v).map enc) e))→Wp (f ()) h' Q) (hi:L[i]?=some (.blk b (xs.map enc) e):=by rfl) (hs:scal (enc v)=true:=by rfl):Wp (M.bind (chk as (stN ⟨b,k,none⟩ [enc v])) f) h Q :=
 z.stC i ha (fun h' z'=>q h' z') hi (splice_map hk) (by simp;omega) (by simp [hs])
theorem chkK_Wp {ks:List Nat}{a:Addr}{m:M α}{Q:α→AHeap→Prop}{g:Nat}{c:List Value}{ba:Nat}{e:TypeId}(hg:h.get a.block=some (.cells c g ba e))(hk:∀ k ∈ ks,a.block≠k∧g≠k+1)(q:Wp m h Q):Wp (chkK ks a m) h Q:=by
 obtain⟨x,h',e1,q⟩:=q
 refine⟨x,h',?_,q⟩
 have:okK h a ks=true:=by
  unfold okK
  rw [hg]
  simp only [List.all_eq_true]
  intro k hm
  obtain⟨h1,h2⟩:=hk k hm
  simp [beq_ne h1,beq_ne h2]
 unfold chkK
 rw [this];exact e1
theorem Z.chkK (z:Z h0 h L)(i:Nat){ks:List Nat}{b o:Nat}{cs:List Value}{e:TypeId}{m:M α}{f:α→M β}{Q:β→AHeap→Prop}(hk:∀ k ∈ ks,b≠k)(q:Wp (M.bind m f) h Q)(hi:L[i]?=some (.blk b cs e):=by rfl) :
  Wp (M.bind (Ago.chkK ks ⟨b,o,none⟩ m) f) h Q:=by
 rw [Wp_bind] at q ⊢
 have l:LB h b cs e:=z.get i hi
 exact chkK_Wp l.get (fun k hm=>⟨hk k hm,fun e=>hk k hm (by omega)⟩) q
theorem Z.mnew (z:Z h0 h L){kt:TypeId}{f:Nat→M β}{Q:β→AHeap→Prop}(q:∀ m h',Z h0 h' (.map m kt (fun _=>none) 0::L)→Wp (f m) h' Q):Wp (M.bind (mpNew kt) f) h Q:=by
 rw [Wp_bind]
 exact Wp_mpNew z.wf fun h' l fr=>q _ h' (z.add (o:=.map h.next kt (fun _=>none) 0) fr l (.inr (Nat.lt_succ_self _)))
theorem Z.mget (z:Z h0 h L)(i:Nat){m:Nat}{kt:TypeId}{fn:Value→Option Value}{n:Nat}{T:Ty}{d:T.den}{k:Value}{f:Bool×T.den→M β}{Q:β→AHeap→Prop}(hi:L[i]?=some (.map m kt fn n))
  (h1:∀ v,fn k=some v→∃ x,unT T v=some x∧Wp (f (true,x)) h Q) (h2:fn k=none→Wp (f (false,d)) h Q):Wp (M.bind (mpGet kt T d (some m) k) f) h Q:=by
 rw [Wp_bind]
 exact MB.gets (z.get i hi) h1 h2
theorem Z.mentry (z:Z h0 h L)(i:Nat){m:Nat}{kt:TypeId}{fn:Value→Option Value}{n:Nat}{T:Ty}{d:T.den}{k:Value}{f:T.den×Nat→M β}{Q:β→AHeap→Prop}(hi:L[i]?=some (.map m kt fn n))(hk:veq k k=true)
  (h1:∀ v,fn k=some v→∃ x,unT T v=some x∧∀ st,Stamp h m k st→Wp (f (x,st)) h Q)
  (h2:fn k=none→∀ h' st,Z h0 h' (L.set i (.map m kt (mupd fn k (pkT T d)) (n+1)))→Stamp h' m k st→Wp (f (d,st)) h' Q):Wp (M.bind (mpEntry kt T d (some m) k) f) h Q:=by
 rw [Wp_bind]
 exact MB.entry (z.get i hi) z.wf hk h1 fun hf h' st l hs fr=>h2 hf h' st (z.upd (o:=.map m kt fn n) hi (by simp [Own.grp]) fr l (.inl rfl)) hs
theorem Z.mstore (z:Z h0 h L)(i:Nat){m:Nat}{kt:TypeId}{fn:Value→Option Value}{n:Nat}{k v:Value}{st:Nat}{f:Unit→M β}{Q:β→AHeap→Prop}(hi:L[i]?=some (.map m kt fn n))(hs:Stamp h m k st)
  (q:∀ h',Z h0 h' (L.set i (.map m kt (mupd fn k v) n))→Wp (f ()) h' Q):Wp (M.bind (mpStore (some m) (st:Int) v) f) h Q:=by
 rw [Wp_bind]
 exact MB.store (z.get i hi) z.wf hs fun h' l fr=>q h' (z.upd (o:=.map m kt fn n) hi (by simp [Own.grp]) fr l (.inl rfl))
theorem Z.ne (z:Z h0 h L)(i j:Nat){o p:Own}(hi:L[i]?=some o)(hj:L[j]?=some p)(hne:i≠j)(ho:o.grp≠0):p.grp≠o.grp:=fun e=>by
 have:=pw_get grp_sym z.dist hj hi (fun e=>hne e.symm) e
 exact ho (by rw [← e];exact this)
theorem range_get {γ:Type}(l:List γ):(List.range l.length).filterMap (fun i=>l[i]?)=l:=by
 induction l with
 | nil=>rfl
 | cons a l ih =>
  rw [List.length_cons,List.range_succ_eq_map,List.filterMap_cons_some (f:=fun i=>(a::l)[i]?) (b:=a) rfl,List.filterMap_map]
  conv=>rhs;rw [← ih]
  rfl
theorem Z.permBy {pre:List Own}(z:Z h0 h (pre++L))(p:List Nat)(hp:p.Perm (List.range pre.length)):Z h0 h (p.filterMap (fun i=>pre[i]?)++L):=by
 refine z.perm (List.Perm.append_right _ ?_)
 have:=hp.filterMap (fun i=>pre[i]?)
 rw [range_get] at this
 exact this.symm
end Go.Ago
