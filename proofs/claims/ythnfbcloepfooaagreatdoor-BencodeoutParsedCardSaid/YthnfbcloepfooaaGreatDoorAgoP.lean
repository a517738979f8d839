
import Derived.Test.YthnfbcloepfooaaGreatDoorShT
import Derived.Test.YthnfbcloepfooaaGreatDoorAgoW
set_option linter.all false
namespace Go.Sh
open Go Go.Ago
structure eo where
 kind:Int
 text:ζ
 ord:Bool
 ks:Sl
 kl:ε
 kg:Nat
 is:Sl
 il:ε
 ig:Nat
def eo.enc (x:eo):δ:=[vi x.kind,.string x.text,.bool x.ord,aS x.ks,aS x.is]
theorem eo.iA (x:eo):x.enc.length=5:=rfl
structure dB where
 node:Int
 parent:Int
 entry:Int
 xc:Int
 to:Int
 kf:Int
 kt:Int
 alias:Bool
 whole:Bool
def dB.enc (x:dB):δ:=[vi x.node,vi x.parent,vi x.entry,vi x.xc,vi x.to,vi x.kf,vi x.kt,.bool x.alias,.bool x.whole]
theorem dB.iA (x:dB):x.enc.length=9:=rfl
structure dO where
 b:Nat
 g:Nat
 base:Nat
 e:κ
 src:ζ
 at':Int
 fmt:Int
 source:ζ
 sU:Sl
 ng:Nat
 nodes:List eo
 root:Int
 Ba:Sl
 sg:Nat
 au:List dB
 err:Int
 off:Int
def dO.enc (S:dO):δ:=[.string S.src,vi S.at',vi S.fmt,.string S.source,aS S.sU,vi S.root,aS S.Ba,aZ,vi S.err,vi S.off]
def dO.lz (S:dO):δ:=S.nodes.flatMap eo.enc
inductive Slot where
 |main|nodes|au|key (i:Nat)|item (i:Nat)
def dO.bG (S:dO):Slot->Nat
 |.main=>S.g
 |.nodes=>S.ng
 |.au=>S.sg
 |.key i=>(match S.nodes[i]? with|some x=>x.kg|none=>0)
 |.item i=>(match S.nodes[i]? with|some x=>x.ig|none=>0)
def dO.fp (S:dO):Nat->Prop:=λg=>∃s,g=S.bG s
structure nQ (h:af) (S:dO) (c nc:δ):Prop where
 wf:WF h
 aD:h.get S.b=some (.cells c S.g S.base S.e)
 g0:S.g≠0
 nodes:sF h S.sU 5 aH nc S.ng
 CK:nc.length=S.nodes.length*5
 au:sF h S.Ba 9 fC (S.au.flatMap dB.enc) S.sg
 keys:∀(i:Nat) (x:eo),S.nodes[i]?=some x->sF h x.ks 1 ay (x.kl.map vi) x.kg
 items:∀(i:Nat) (x:eo),S.nodes[i]?=some x->sF h x.is 1 ay (x.il.map vi) x.ig
 k8:∀s t,s≠t->S.bG s=S.bG t->S.bG s=0
abbrev St (h:af)(S:dO):Prop:=nQ h S S.enc S.lz
variable {h h':af}{S S':dO}{c nc:δ}
theorem nQ.le (st:nQ h S c nc)(s:Slot):S.bG s<=h.next:=by
 cases s with
 |main=>exact st.wf.bG _ _ _ _ _ st.aD
 |nodes=>exact st.nodes.le
 |au=>exact st.au.le
 |key i=>
  simp only[dO.bG];split
  .rename_i x hx;exact (st.keys i x hx).le
  .omega
 |item i=>
  simp only[dO.bG];split
  .rename_i x hx;exact (st.items i x hx).le
  .omega
theorem nQ.pD (st:nQ h S c nc):S.sU.len=S.nodes.length:=by
 have h1:=st.nodes.1;have h2:=st.CK;omega
theorem nQ.rJ (st:nQ h S c nc):S.Ba.len=S.au.length:=by
 have h1:=st.au.1;rw[fP dB.iA] at h1;omega
theorem nQ.fr (st:nQ h S c nc){X:Nat->Prop}(f:Fr X h h')(hx:∀s,X (S.bG s)->S.bG s=0):nQ h' S c nc:=by
 refine⟨f.wf,f.cells _ _ _ _ _ st.aD (hx .main),st.g0,st.nodes.fr f (hx .nodes),st.CK,st.au.fr f (hx .au),λi x hi=>?_,λi x hi=>?_,st.k8⟩
 .refine (st.keys i x hi).fr f ?_;have:=hx (.key i);simpa only[dO.bG,hi] using this
 .refine (st.items i x hi).fr f ?_;have:=hx (.item i);simpa only[dO.bG,hi] using this
def dO.Ly (S:dO):Nat×Nat×Nat×κ×ζ×Int×ζ×Int:=(S.b,S.g,S.base,S.e,S.src,S.fmt,S.source,S.root)
structure nu (h:af) (S:dO) (h':af) (S':dO):Prop where
 Ly:S'.Ly=S.Ly
 fr:Fr S.fp h h'
 fp:∀s,S'.bG s=0\/(∃t,S'.bG s=S.bG t)\/h.next<S'.bG s
theorem nu.refl (hw:WF h):nu h S h S:=⟨rfl,Fr.refl hw,λs=>.inr (.inl ⟨s,rfl⟩)⟩
theorem nu.trans {h1 h2:af}{S1 S2:dO}(hw:WF h)(a:nu h S h1 S1)(b:nu h1 S1 h2 S2):nu h S h2 S2:=by
 refine⟨b.Ly.trans a.Ly,a.fr.trans hw b.fr λg hg h0=>?_,λs=>?_⟩
 .obtain⟨s,rfl⟩:=hg;rcases a.fp s with h3|⟨t,h3⟩|h3
  .exact absurd h3 h0
  .exact .inl ⟨t,h3⟩
  .exact .inr h3
 .rcases b.fp s with h3|⟨t,h3⟩|h3
  .exact .inl h3
  .rcases a.fp t with h4|⟨u,h4⟩|h4
   .exact .inl (h3.trans h4)
   .exact .inr (.inl ⟨u,h3.trans h4⟩)
   .exact .inr (.inr (by omega))
  .exact .inr (.inr (Nat.lt_of_le_of_lt a.fr.next h3))
theorem nu.other (f:nu h S h' S'){X:Nat->Prop}{h1:af}(hw:WF h)(g1:Fr X h1 h)(hw1:WF h1)(hx:∀s,S.bG s=0\/X (S.bG s)\/h1.next<S.bG s):Fr X h1 h':=
 g1.trans hw1 f.fr λg hg h0=>by
  obtain⟨s,rfl⟩:=hg;rcases hx s with h3|h3|h3
  .exact absurd h3 h0
  .exact .inl h3
  .exact .inr h3
theorem zn {n:Nat}(hd:∀s t,s≠t->S.bG s=S.bG t->S.bG s=0)(hle:∀s,S.bG s<=n)(s0:Slot)(ho:∀s,s≠s0->S'.bG s=S.bG s\/S'.bG s=0)(hn:S'.bG s0=S.bG s0\/S'.bG s0=0\/n<S'.bG s0) :
  ∀s t,s≠t->S'.bG s=S'.bG t->S'.bG s=0:=by
 have key:∀t,t≠s0->S'.bG s0=S'.bG t->S'.bG s0=0:=λt ht he=>by
  rcases ho t ht with h5|h5
  .rcases hn with h6|h6|h6
   .rw[h6];exact hd s0 t (λe=>ht e.symm) (by rw[<-h6,he,h5])
   .exact h6
   .have:=hle t;omega
  .rw[he,h5]
 intro s t hst he;by_cases hs:s=s0
 .subst hs;exact key t (λe=>hst e.symm) he
 .by_cases ht:t=s0
  .subst ht;rw[he];exact key s hs he.symm
  .rcases ho s hs with h5|h5
   .rcases ho t ht with h6|h6
    .rw[h5];exact hd s t hst (by rw[<-h5,he,h6])
    .rw[he,h6]
   .exact h5
theorem xb {c:δ}{o:Nat}{v:ξ}(ho:o<c.length):bB c o [v]=c.set o v:=by
 rw[abH,BY ho];simp[bB]
theorem nQ.put (st:nQ h S c nc){o:Nat}{v:ξ}(ho:o<c.length)(hv:fi v=true){Q:Unit->af->Prop}
  (hq:∀h',nQ h' S (c.set o v) nc->Fr (·=S.g) h h'->Q () h'):Wp (bE ⟨S.b,o,none⟩ [v]) h Q:=by
 rw[Fl];refine⟨c,S.g,S.base,S.e,st.aD,st.g0,by simp;omega,by simp[hv],?_⟩;have f:=Fr.mY (c:=c.set o v) (base:=S.base) (e:=S.e) st.wf st.g0 st.aD;rw[xb ho];have hx:∀s,s≠Slot.main->S.bG s=S.g->S.bG s=0:=λs hs he=>st.k8 s .main hs he;refine hq _ ⟨f.wf,u5,st.g0,st.nodes.fr f (hx .nodes (by simp)),st.CK,st.au.fr f (hx .au (by simp)),λi x hi=>?_,λi x hi=>?_,st.k8⟩ f
 .refine (st.keys i x hi).fr f ?_;have:=hx (.key i) (by simp);simpa only[dO.bG,hi] using this
 .refine (st.items i x hi).fr f ?_;have:=hx (.item i) (by simp);simpa only[dO.bG,hi] using this
theorem nQ.ld (st:nQ h S c nc){l:eh}{o:Nat}:h.ld l S.b o=(match c[o]? with|some v=>xi l v|none=>none):=by
 unfold af.ld;rw[st.aD];simp only;generalize c[o]?=z;cases z<;>rfl
theorem nQ.as (st:nQ h S c nc)(e1:S'.b=S.b)(e2:S'.g=S.g)(e3:S'.base=S.base)(e4:S'.e=S.e)(e5:S'.sU=S.sU)(e6:S'.ng=S.ng)(e7:S'.nodes=S.nodes)(e8:S'.Ba=S.Ba)(e9:S'.sg=S.sg)(e10:S'.au=S.au):nQ h S' c nc:=by
 have hg:∀s,S'.bG s=S.bG s:=λs=>by cases s<;>simp only[dO.bG,e2,e6,e7,e9]
 exact⟨st.wf,by rw[e1,e2,e3,e4];exact st.aD,by rw[e2];exact st.g0,by rw[e5,e6];exact st.nodes,by rw[e7];exact st.CK,by rw[e8,e9,e10];exact st.au,
  by rw[e7];exact st.keys,by rw[e7];exact st.items,λs t hs=>by rw[hg s,hg t];exact st.k8 s t hs⟩
theorem nQ.Qg (st:nQ h S c nc){x:eo}(hk:x.ks=jb/\x.kl=[]/\x.kg=0)(hi:x.is=jb/\x.il=[]/\x.ig=0){b:Bool}(hb:S.nodes.length+1<=cN){Q:Sl->af->Prop}
  (hq:∀s' h' g',s'.len=S.nodes.length+1->(g'=S.ng/\S.ng≠0\/g'=h.next+1)->nQ h' { S with sU:=s',ng:=g',nodes:=S.nodes++[x] } c (nc++x.enc)->Fr (·=S.ng) h h'->Q s' h') :
  Wp (app b S.sU 5 aH 1 x.enc) h Q:=by
 refine sF.app st.nodes st.wf (by omega) rfl (by rw[st.pD];exact hb) λs' h' g' h1 h2 h3 h4 f=>?_;have hx:∀s,s≠Slot.nodes->S.bG s=S.ng->S.bG s=0:=λs hs he=>st.k8 s .nodes hs he;have gl:∀(i:Nat) (y:eo),(S.nodes++[x])[i]?=some y->S.nodes[i]?=some y\/y=x:=λi y hy=>by
  by_cases hlt:i<S.nodes.length
  .rw[aau hlt] at hy;exact .inl hy
  .rw[aaH (by omega)] at hy;have hy:=OF hy;exact .inr (by simpa using hy)
 refine hq s' h' g' (by rw[h1,st.pD]) h4 ⟨f.wf,f.cells _ _ _ _ _ st.aD (λhe=>hx .main (by simp) he),st.g0,h3,by simp[st.CK,eo.iA];omega,st.au.fr f (hx .au (by simp)),λi y hy=>?_,λi y hy=>?_,?_⟩ f
 .rcases gl i y hy with hy|rfl
  .refine (st.keys i y hy).fr f ?_;have:=hx (.key i) (by simp);simpa only[dO.bG,hy] using this
  .rw[hk.1,hk.2.1,hk.2.2];exact sF.nil
 .rcases gl i y hy with hy|rfl
  .refine (st.items i y hy).fr f ?_;have:=hx (.item i) (by simp);simpa only[dO.bG,hy] using this
  .rw[hi.1,hi.2.1,hi.2.2];exact sF.nil
 .have j7:∀s,s≠Slot.nodes->dO.bG { S with sU:=s',ng:=g',nodes:=S.nodes++[x] } s=S.bG s\/dO.bG { S with sU:=s',ng:=g',nodes:=S.nodes++[x] } s=0:=by
   intro s hs;cases s with
   |main=>exact .inl rfl
   |au=>exact .inl rfl
   |nodes=>exact absurd rfl hs
   |key i=>
    simp only[dO.bG];by_cases hlt:i<S.nodes.length
    .rw[aau hlt];exact .inl rfl
    .rw[aaH (by omega)];refine .inr ?_;split
     .rename_i y hy;have hy:=OF hy;have:y=x:=(by simpa using hy);rw[this,hk.2.2]
     .rfl
   |item i=>
    simp only[dO.bG];by_cases hlt:i<S.nodes.length
    .rw[aau hlt];exact .inl rfl
    .rw[aaH (by omega)];refine .inr ?_;split
     .rename_i y hy;have hy:=OF hy;have:y=x:=(by simpa using hy);rw[this,hi.2.2]
     .rfl
  refine zn st.k8 st.le .nodes j7 ?_;rcases h4 with⟨h6,_⟩|h6
  .exact .inl h6
  .exact .inr (.inr (by show h.next<g';omega))
theorem nQ.Qh (st:nQ h S c nc){x:dB}{b:Bool}(hb:S.au.length+1<=cN){Q:Sl->af->Prop}
  (hq:∀s' h' g',s'.len=S.au.length+1->(g'=S.sg/\S.sg≠0\/g'=h.next+1)->nQ h' { S with Ba:=s',sg:=g',au:=S.au++[x] } c nc->Fr (·=S.sg) h h'->Q s' h') :
  Wp (app b S.Ba 9 fC 1 x.enc) h Q:=by
 refine sF.app st.au st.wf (by omega) rfl (by rw[st.rJ];exact hb) λs' h' g' h1 h2 h3 h4 f=>?_;have hx:∀s,s≠Slot.au->S.bG s=S.sg->S.bG s=0:=λs hs he=>st.k8 s .au hs he;refine hq s' h' g' (by rw[h1,st.rJ]) h4 ⟨f.wf,f.cells _ _ _ _ _ st.aD (λhe=>hx .main (by simp) he),st.g0,st.nodes.fr f (hx .nodes (by simp)),st.CK,by simpa using h3,λi y hy=>?_,λi y hy=>?_,?_⟩ f
 .refine (st.keys i y hy).fr f ?_;have:=hx (.key i) (by simp);simpa only[dO.bG,hy] using this
 .refine (st.items i y hy).fr f ?_;have:=hx (.item i) (by simp);simpa only[dO.bG,hy] using this
 .refine zn st.k8 st.le .au (λs hs=>.inl ?_) ?_
  .cases s<;>first|rfl|exact absurd rfl hs
  .rcases h4 with⟨h6,_⟩|h6
   .exact .inl h6
   .exact .inr (.inr (by show h.next<g';omega))
theorem BK {α:Type}{L:List α}{i j:Nat}{x y:α}(hj:(L.set i x)[j]?=some y):(j=i/\y=x/\i<L.length)\/(j≠i/\L[j]?=some y):=by
 by_cases hji:j=i
 .subst hji;have hlt:j<L.length:=by have:=(List.getElem?_eq_some_iff.1 hj).1;simpa using this
  rw[aaw hlt] at hj;cases hj;exact .inl ⟨rfl,rfl,hlt⟩
 .rw[aa1 (λe=>hji e.symm)] at hj;exact .inr ⟨hji,hj⟩
theorem nQ.Lz (st:nQ h S c nc){i:Nat}{x:eo}(hi:S.nodes[i]?=some x){v:Int}{b:Bool}(hb:x.il.length+1<=cN){Q:Sl->af->Prop}
  (hq:∀s' h' g',(g'=x.ig/\x.ig≠0\/g'=h.next+1)->nQ h' { S with nodes:=S.nodes.set i { x with is:=s',il:=x.il++[v],ig:=g' } } c nc->Fr (·=x.ig) h h'->Q s' h') :
  Wp (app b x.is 1 ay 1 [vi v]) h Q:=by
 have o:=st.items i x hi;have hlen:x.is.len=x.il.length:=by have:=o.1;simpa using this.symm
 have hgi:S.bG (.item i)=x.ig:=by simp only[dO.bG,hi]
 refine sF.app o st.wf (by omega) rfl (by rw[hlen];exact hb) λs' h' g' h1 h2 h3 h4 f=>?_;have hx:∀s,s≠Slot.item i->S.bG s=x.ig->S.bG s=0:=λs hs he=>st.k8 s (.item i) hs (by rw[he,hgi]);have hlt:=(List.getElem?_eq_some_iff.1 hi).1;refine hq s' h' g' h4 ⟨f.wf,f.cells _ _ _ _ _ st.aD (λhe=>hx .main (by simp) he),st.g0,st.nodes.fr f (hx .nodes (by simp)),by simp[st.CK],st.au.fr f (hx .au (by simp)),λj y hy=>?_,λj y hy=>?_,?_⟩ f
 .have hk:∀y',S.nodes[j]?=some y'->sF h' y'.ks 1 ay (y'.kl.map vi) y'.kg:=λy' hy'=>by
   refine (st.keys j y' hy').fr f ?_;have:=hx (.key j) (by simp);simpa only[dO.bG,hy'] using this
  rcases BK hy with⟨rfl,rfl,_⟩|⟨_,hy⟩
  .exact hk x hi
  .exact hk y hy
 .rcases BK hy with⟨rfl,rfl,_⟩|⟨hji,hy⟩
  .simpa using h3
  .refine (st.items j y hy).fr f ?_;have:=hx (.item j) (by simp[hji]);simpa only[dO.bG,hy] using this
 .refine zn st.k8 st.le (.item i) (λs hs=>.inl ?_) ?_
  .cases s with
   |key j=>
    simp only[dO.bG];by_cases hji:j=i
    .subst hji;rw[aaw hlt,hi]
    .rw[aa1 (λe=>hji e.symm)]
   |item j=>
    have hji:j≠i:=λe=>hs (by rw[e]);simp only[dO.bG];rw[aa1 (λe=>hji e.symm)]
   |_=>rfl
  .have e1:dO.bG { S with nodes:=S.nodes.set i { x with is:=s',il:=x.il++[v],ig:=g' } } (.item i)=g':=by
    simp only[dO.bG];rw[aaw hlt]
   rw[e1,hgi];rcases h4 with⟨h6,_⟩|h6
   .exact .inl h6
   .exact .inr (.inr (by omega))
theorem nQ.VS (st:nQ h S c nc){i:Nat}{x:eo}(hi:S.nodes[i]?=some x){v:Int}{b:Bool}(hb:x.kl.length+1<=cN){Q:Sl->af->Prop}
  (hq:∀s' h' g',(g'=x.kg/\x.kg≠0\/g'=h.next+1)->nQ h' { S with nodes:=S.nodes.set i { x with ks:=s',kl:=x.kl++[v],kg:=g' } } c nc->Fr (·=x.kg) h h'->Q s' h') :
  Wp (app b x.ks 1 ay 1 [vi v]) h Q:=by
 have o:=st.keys i x hi;have hlen:x.ks.len=x.kl.length:=by have:=o.1;simpa using this.symm
 have hgi:S.bG (.key i)=x.kg:=by simp only[dO.bG,hi]
 refine sF.app o st.wf (by omega) rfl (by rw[hlen];exact hb) λs' h' g' h1 h2 h3 h4 f=>?_;have hx:∀s,s≠Slot.key i->S.bG s=x.kg->S.bG s=0:=λs hs he=>st.k8 s (.key i) hs (by rw[he,hgi]);have hlt:=(List.getElem?_eq_some_iff.1 hi).1;refine hq s' h' g' h4 ⟨f.wf,f.cells _ _ _ _ _ st.aD (λhe=>hx .main (by simp) he),st.g0,st.nodes.fr f (hx .nodes (by simp)),by simp[st.CK],st.au.fr f (hx .au (by simp)),λj y hy=>?_,λj y hy=>?_,?_⟩ f
 .rcases BK hy with⟨rfl,rfl,_⟩|⟨hji,hy⟩
  .simpa using h3
  .refine (st.keys j y hy).fr f ?_;have:=hx (.key j) (by simp[hji]);simpa only[dO.bG,hy] using this
 .have hk:∀y',S.nodes[j]?=some y'->sF h' y'.is 1 ay (y'.il.map vi) y'.ig:=λy' hy'=>by
   refine (st.items j y' hy').fr f ?_;have:=hx (.item j) (by simp);simpa only[dO.bG,hy'] using this
  rcases BK hy with⟨rfl,rfl,_⟩|⟨_,hy⟩
  .exact hk x hi
  .exact hk y hy
 .refine zn st.k8 st.le (.key i) (λs hs=>.inl ?_) ?_
  .cases s with
   |item j=>
    simp only[dO.bG];by_cases hji:j=i
    .subst hji;rw[aaw hlt,hi]
    .rw[aa1 (λe=>hji e.symm)]
   |key j=>
    have hji:j≠i:=λe=>hs (by rw[e]);simp only[dO.bG];rw[aa1 (λe=>hji e.symm)]
   |_=>rfl
  .have e1:dO.bG { S with nodes:=S.nodes.set i { x with ks:=s',kl:=x.kl++[v],kg:=g' } } (.key i)=g':=by
    simp only[dO.bG];rw[aaw hlt]
   rw[e1,hgi];rcases h4 with⟨h6,_⟩|h6
   .exact .inl h6
   .exact .inr (.inr (by omega))
theorem nQ.BM (st:nQ h S c nc)(hn:S.nodes.length≠0):∃bn base,S.sU.a=some ⟨bn,0,none⟩/\h.get bn=some (.cells nc S.ng base aH)/\S.ng≠0:=
 st.nodes.aD (by rw[st.pD];exact hn)
theorem nQ.LA (st:nQ h S c nc)(hn:S.au.length≠0):∃bn base,S.Ba.a=some ⟨bn,0,none⟩/\h.get bn=some (.cells (S.au.flatMap dB.enc) S.sg base fC)/\S.sg≠0:=
 st.au.aD (by rw[st.rJ];exact hn)
theorem nQ.Fq (st:nQ h S c nc){bn o:Nat}{v:ξ}(ha:S.sU.a=some ⟨bn,0,none⟩)(ho:o<nc.length)(hv:fi v=true){Q:Unit->af->Prop}
  (hq:∀h',nQ h' S c (nc.set o v)->Fr (·=S.ng) h h'->Q () h'):Wp (bE ⟨bn,o,none⟩ [v]) h Q:=by
 have hn:S.nodes.length≠0:=by have:=st.CK;omega
 obtain⟨b2,base,h1,h2,h3⟩:=st.BM hn;rw[ha] at h1;cases h1;rw[Fl];refine⟨nc,S.ng,base,aH,h2,h3,by simp;omega,by simp[hv],?_⟩;have f:=Fr.mY (c:=nc.set o v) (base:=base) (e:=aH) st.wf h3 h2;rw[xb ho];have hx:∀s,s≠Slot.nodes->S.bG s=S.ng->S.bG s=0:=λs hs he=>st.k8 s .nodes hs he;refine hq _ ⟨f.wf,f.cells _ _ _ _ _ st.aD (λhe=>hx .main (by simp) he),st.g0,st.nodes.mY (by simp) (by rw[st.pD];exact hn) ha h2,by simp[st.CK],st.au.fr f (hx .au (by simp)),λi x hi=>?_,λi x hi=>?_,st.k8⟩ f
 .refine (st.keys i x hi).fr f ?_;have:=hx (.key i) (by simp);simpa only[dO.bG,hi] using this
 .refine (st.items i x hi).fr f ?_;have:=hx (.item i) (by simp);simpa only[dO.bG,hi] using this
theorem nQ.To (st:nQ h S c nc){bn i o:Nat}{x x':dB}{v:ξ}(ha:S.Ba.a=some ⟨bn,0,none⟩)(hi:S.au[i]?=some x)(ho:o<9)(hv:fi v=true)(hx':x'.enc=x.enc.set o v){Q:Unit->af->Prop}
  (hq:∀h',nQ h' { S with au:=S.au.set i x' } c nc->Fr (·=S.sg) h h'->Q () h'):Wp (bE ⟨bn,i*9+o,none⟩ [v]) h Q:=by
 have hlt:=(List.getElem?_eq_some_iff.1 hi).1;obtain⟨b2,base,h1,h2,h3⟩:=st.LA (by omega);rw[ha] at h1;cases h1;rw[Fl];have hl:=fP dB.iA S.au;refine⟨_,S.sg,base,fC,h2,h3,by simp[hl];omega,by simp[hv],?_⟩;rw[sT dB.iA hi (x':=x') (by simp;omega) (by rw[hx',xb (by rw[dB.iA];exact ho)])];have f:=Fr.mY (c:=(S.au.set i x').flatMap dB.enc) (base:=base) (e:=fC) st.wf h3 h2;have hx:∀s,s≠Slot.au->S.bG s=S.sg->S.bG s=0:=λs hs he=>st.k8 s .au hs he;refine hq _ ⟨f.wf,f.cells _ _ _ _ _ st.aD (λhe=>hx .main (by simp) he),st.g0,st.nodes.fr f (hx .nodes (by simp)),st.CK,st.au.mY (by rw[fP dB.iA,fP dB.iA,ab2]) (by rw[st.rJ];omega) ha h2,λi x hi=>?_,λi x hi=>?_,st.k8⟩ f
 .refine (st.keys i x hi).fr f ?_;have:=hx (.key i) (by simp);simpa only[dO.bG,hi] using this
 .refine (st.items i x hi).fr f ?_;have:=hx (.item i) (by simp);simpa only[dO.bG,hi] using this
theorem nu.b (f:nu h S h' S'):S'.b=S.b:=aaL (·.1) f.Ly
theorem nu.src (f:nu h S h' S'):S'.src=S.src:=aaL (·.2.2.2.2.1) f.Ly
theorem nu.root (f:nu h S h' S'):S'.root=S.root:=aaL (·.2.2.2.2.2.2.2) f.Ly
theorem nu.fmt (f:nu h S h' S'):S'.fmt=S.fmt:=aaL (·.2.2.2.2.2.1) f.Ly
theorem nu.source (f:nu h S h' S'):S'.source=S.source:=aaL (·.2.2.2.2.2.2.1) f.Ly
theorem nu.one {s0:Slot}(hc:S'.Ly=S.Ly)(f:Fr (·=S.bG s0) h h')(ho:∀s,s≠s0->S'.bG s=S.bG s\/S'.bG s=0)(hn:S'.bG s0=S.bG s0\/S'.bG s0=0\/h.next<S'.bG s0)(hw:WF h):nu h S h' S':=by
 refine⟨hc,f.mono hw λg hg _=>.inl ⟨s0,hg⟩,λs=>?_⟩;by_cases hs:s=s0
 .subst hs;rcases hn with h1|h1|h1
  .exact .inr (.inl ⟨_,h1⟩)
  .exact .inl h1
  .exact .inr (.inr h1)
 .rcases ho s hs with h1|h1
  .exact .inr (.inl ⟨_,h1⟩)
  .exact .inl h1
theorem St.pure (st:St h S)(f:Fr (λ_=>False) h h'):St h' S/\nu h S h' S:=
 ⟨st.fr f (λ_ hx=>hx.elim),rfl,f.mono st.wf (λ_ hx _=>hx.elim),λs=>.inr (.inl ⟨s,rfl⟩)⟩
theorem nQ.eF (st:nQ h S S.enc nc):h.ZV S.b 0=some S.src:=st.ld
theorem nQ.je (st:nQ h S S.enc nc):h.XN .i64 S.b 1=some S.at':=st.ld
theorem nQ.b7 (st:nQ h S S.enc nc):h.VP S.b 4=some S.sU:=st.ld
theorem nQ.cC (st:nQ h S S.enc nc):h.VP S.b 6=some S.Ba:=st.ld
theorem nQ.eG (st:nQ h S S.enc nc):h.XN .i64 S.b 8=some S.err:=st.ld
theorem nQ.XP (st:nQ h S S.enc nc):h.XN .i64 S.b 9=some S.off:=st.ld
theorem aC (a:Addr)(n:Nat):a.plus n=⟨a.block,a.off+n,none⟩:=rfl
def dO.tK (S:dO)(v:Int):dO:={ S with at':=v }
def dO.Qi (S:dO)(v:Int):dO:={ S with err:=v }
def dO.M7 (S:dO)(v:Int):dO:={ S with off:=v }
def dO.gD (S:dO)(s:Sl)(g:Nat)(l:List eo):dO:={ S with sU:=s,ng:=g,nodes:=l }
def dO.tM (S:dO)(s:Sl)(g:Nat)(l:List dB):dO:={ S with Ba:=s,sg:=g,au:=l }
theorem St.setAt (st:St h S){v:Int}{Q:Unit->af->Prop}(hq:∀h',St h' (S.tK v)->nu h S h' (S.tK v)->Q () h'):Wp (bE ⟨S.b,1,none⟩ [vi v]) h Q:=
 st.put (by show 1<10;omega) rfl λh' st' f=>hq h' (st'.as rfl rfl rfl rfl rfl rfl rfl rfl rfl rfl) (nu.one (s0:=.main) rfl f (λs _=>.inl (by cases s<;>rfl)) (.inl rfl) st.wf)
theorem St.VT (st:St h S){v:Int}{Q:Unit->af->Prop}(hq:∀h',St h' (S.Qi v)->nu h S h' (S.Qi v)->Q () h'):Wp (bE ⟨S.b,8,none⟩ [vi v]) h Q:=
 st.put (by show 8<10;omega) rfl λh' st' f=>hq h' (st'.as rfl rfl rfl rfl rfl rfl rfl rfl rfl rfl) (nu.one (s0:=.main) rfl f (λs _=>.inl (by cases s<;>rfl)) (.inl rfl) st.wf)
theorem St.VU (st:St h S){v:Int}{Q:Unit->af->Prop}(hq:∀h',St h' (S.M7 v)->nu h S h' (S.M7 v)->Q () h'):Wp (bE ⟨S.b,9,none⟩ [vi v]) h Q:=
 st.put (by show 9<10;omega) rfl λh' st' f=>hq h' (st'.as rfl rfl rfl rfl rfl rfl rfl rfl rfl rfl) (nu.one (s0:=.main) rfl f (λs _=>.inl (by cases s<;>rfl)) (.inl rfl) st.wf)
theorem nu.two {h2 h3:af}{s0 s1:Slot}(hw:WF h)(hc:S'.Ly=S.Ly)(f:Fr (·=S.bG s0) h h2)(f2:Fr (·=S'.bG s1) h2 h3)(hs:s1≠s0)(h1:S'.bG s1=S.bG s1)(ho:∀s,s≠s0->S'.bG s=S.bG s\/S'.bG s=0)(hn:S'.bG s0=S.bG s0\/S'.bG s0=0\/h.next<S'.bG s0):nu h S h3 S':=by
 refine⟨hc,(f.mono hw λg hg _=>.inl ⟨s0,hg⟩).trans hw f2 λg hg _=>.inl ⟨s1,by rw[hg,h1]⟩,λs=>?_⟩;by_cases hs:s=s0
 .subst hs;rcases hn with h1|h1|h1
  .exact .inr (.inl ⟨_,h1⟩)
  .exact .inl h1
  .exact .inr (.inr h1)
 .rcases ho s hs with h1|h1
  .exact .inr (.inl ⟨_,h1⟩)
  .exact .inl h1
theorem St.addNode (st:St h S){x:eo}(hk:x.ks=jb/\x.kl=[]/\x.kg=0)(hi:x.is=jb/\x.il=[]/\x.ig=0){b:Bool}(hb:S.nodes.length+1<=cN){Q:Sl->af->Prop}
  (hq:∀s' h',Wp (bE ⟨S.b,4,none⟩ [aS s']) h' (λ_ h3=>∃g',s'.len=S.nodes.length+1/\St h3 (S.gD s' g' (S.nodes++[x]))/\nu h S h3 (S.gD s' g' (S.nodes++[x])))->Q s' h') :
  Wp (app b S.sU 5 aH 1 x.enc) h Q:=by
 refine st.Qg hk hi hb λs' h2 g' e1 e2 st2 f2=>hq s' h2 ?_;refine st2.put (o:=4) (by show 4<10;omega) rfl λh3 st3 f3=>⟨g',e1,?_,?_⟩
 .have e3:dO.lz (S.gD s' g' (S.nodes++[x]))=S.lz++x.enc:=by simp[dO.lz,dO.gD]
  show nQ h3 _ _ (dO.lz _);rw[e3];exact st3
 .refine nu.two (s0:=.nodes) (s1:=.main) st.wf rfl f2 f3 (by simp) rfl (λs hs=>?_) ?_
  .cases s with
   |nodes=>exact absurd rfl hs
   |key i=>
    simp only[dO.bG,dO.gD];by_cases hlt:i<S.nodes.length
    .rw[aau hlt];exact .inl rfl
    .rw[aaH (by omega)];refine .inr ?_;split
     .rename_i y hy;have hy:=OF hy;have:y=x:=(by simpa using hy);rw[this,hk.2.2]
     .rfl
   |item i=>
    simp only[dO.bG,dO.gD];by_cases hlt:i<S.nodes.length
    .rw[aau hlt];exact .inl rfl
    .rw[aaH (by omega)];refine .inr ?_;split
     .rename_i y hy;have hy:=OF hy;have:y=x:=(by simpa using hy);rw[this,hi.2.2]
     .rfl
   |_=>exact .inl rfl
  .rcases e2 with⟨h6,_⟩|h6
   .exact .inl h6
   .exact .inr (.inr (by show h.next<g';omega))
theorem St.Tp (st:St h S){x:dB}{b:Bool}(hb:S.au.length+1<=cN){Q:Sl->af->Prop}
  (hq:∀s' h',Wp (bE ⟨S.b,6,none⟩ [aS s']) h' (λ_ h3=>∃g',s'.len=S.au.length+1/\St h3 (S.tM s' g' (S.au++[x]))/\nu h S h3 (S.tM s' g' (S.au++[x])))->Q s' h') :
  Wp (app b S.Ba 9 fC 1 x.enc) h Q:=by
 refine st.Qh hb λs' h2 g' e1 e2 st2 f2=>hq s' h2 ?_;refine st2.put (o:=6) (by show 6<10;omega) rfl λh3 st3 f3=>⟨g',e1,st3,?_⟩;refine nu.two (s0:=.au) (s1:=.main) st.wf rfl f2 f3 (by simp) rfl (λs hs=>.inl ?_) ?_
 .cases s<;>first|rfl|exact absurd rfl hs
 .rcases e2 with⟨h6,_⟩|h6
  .exact .inl h6
  .exact .inr (.inr (by show h.next<g';omega))
theorem LC {i:Nat}{x x':eo}(hi:S.nodes[i]?=some x)(s:Slot)(h1:s=.key i->x'.kg=x.kg)(h2:s=.item i->x'.ig=x.ig):dO.bG (S.gD S.sU S.ng (S.nodes.set i x')) s=S.bG s:=by
 have hlt:=(List.getElem?_eq_some_iff.1 hi).1;cases s with
 |key j=>
  simp only[dO.bG,dO.gD];by_cases hji:j=i
  .subst hji;rw[aaw hlt,hi];exact h1 rfl
  .rw[aa1 (λe=>hji e.symm)]
 |item j=>
  simp only[dO.bG,dO.gD];by_cases hji:j=i
  .subst hji;rw[aaw hlt,hi];exact h2 rfl
  .rw[aa1 (λe=>hji e.symm)]
 |_=>rfl
theorem St.Qj (st:St h S){i bn:Nat}{x:eo}(hi:S.nodes[i]?=some x)(ha:S.sU.a=some ⟨bn,0,none⟩){v:Int}{b:Bool}(hb:x.il.length+1<=cN){Q:Sl->af->Prop}
  (hq:∀s' h',Wp (bE ⟨bn,i*5+4,none⟩ [aS s']) h' (λ_ h3=>∃g',St h3 (S.gD S.sU S.ng (S.nodes.set i { x with is:=s',il:=x.il++[v],ig:=g' }))/\nu h S h3 (S.gD S.sU S.ng (S.nodes.set i { x with is:=s',il:=x.il++[v],ig:=g' })))->Q s' h') :
  Wp (app b x.is 1 ay 1 [vi v]) h Q:=by
 have hlt:=(List.getElem?_eq_some_iff.1 hi).1;have hl:=fP eo.iA S.nodes;refine st.Lz hi hb λs' h2 g' e2 st2 f2=>hq s' h2 ?_;refine st2.Fq (o:=i*5+4) ha (by show i*5+4<(S.nodes.flatMap eo.enc).length;rw[hl];omega) rfl λh3 st3 f3=>⟨g',?_,?_⟩
 .have e3:dO.lz (S.gD S.sU S.ng (S.nodes.set i { x with is:=s',il:=x.il++[v],ig:=g' }))=S.lz.set (i*5+4) (aS s'):=by
   have:=sT eo.iA hi (x':={ x with is:=s',il:=x.il++[v],ig:=g' }) (o:=4) (vs:=[aS s']) (by simp) (by rw[xb (by simp[eo.enc])];rfl);rw[xb (by rw[hl];omega)] at this;exact this.symm
  show nQ h3 _ _ (dO.lz _);rw[e3];exact st3
 .have hgi:S.bG (.item i)=x.ig:=by simp only[dO.bG,hi]
  refine nu.two (s0:=.item i) (s1:=.nodes) st.wf rfl (by rw[hgi];exact f2) f3 (by simp) rfl (λs hs=>.inl (LC hi s (λ_=>rfl) (λe=>absurd e hs))) ?_;have e1:dO.bG (S.gD S.sU S.ng (S.nodes.set i { x with is:=s',il:=x.il++[v],ig:=g' })) (.item i)=g':=by
   simp only[dO.bG,dO.gD];rw[aaw hlt]
  rw[e1,hgi];rcases e2 with⟨h6,_⟩|h6
  .exact .inl h6
  .exact .inr (.inr (by omega))
theorem XQ {v w:ξ}:∀{c:δ} {o:Nat},o+1<c.length->(c.set o v).set (o+1) w=bB c o [v,w]
 |a::b::c,0,_=>rfl
 |a::c,o+1,ho=>by
  have ih:=XQ (v:=v) (w:=w) (c:=c) (o:=o) (by simp at ho;omega);rw[abo,abo,ih];simp[bB,show o+1+2=o+2+1 by omega]
 |[],_,ho=>by simp at ho
 |[_],0,ho=>by simp at ho
theorem St.M8 (st:St h S){i bn:Nat}{x:eo}(hi:S.nodes[i]?=some x)(ha:S.sU.a=some ⟨bn,0,none⟩){v w:Int}{b b':Bool}(hb:x.kl.length+1<=cN)(hb2:x.il.length+1<=cN){Q:Sl->af->Prop}
  (hq:∀s1 h2,Wp (app b' x.is 1 ay 1 [vi w]) h2 (λs2 h3=>Wp (bE ⟨bn,i*5+3,none⟩ [aS s1]) h3 λ_ h4=>Wp (bE ⟨bn,i*5+4,none⟩ [aS s2]) h4 λ_ h5=>
   ∃kg ig,St h5 (S.gD S.sU S.ng (S.nodes.set i { x with ks:=s1,kl:=x.kl++[v],kg:=kg,is:=s2,il:=x.il++[w],ig:=ig })) /\
    nu h S h5 (S.gD S.sU S.ng (S.nodes.set i { x with ks:=s1,kl:=x.kl++[v],kg:=kg,is:=s2,il:=x.il++[w],ig:=ig })))->Q s1 h2) :
  Wp (app b x.ks 1 ay 1 [vi v]) h Q:=by
 have hlt:=(List.getElem?_eq_some_iff.1 hi).1;have hl:=fP eo.iA S.nodes;have hki:S.bG (.key i)=x.kg:=by simp only[dO.bG,hi]
 have hgi:S.bG (.item i)=x.ig:=by simp only[dO.bG,hi]
 refine st.VS hi hb λs1 h2 kg e1 st2 f2=>hq s1 h2 ?_;have hi2:(S.nodes.set i { x with ks:=s1,kl:=x.kl++[v],kg:=kg })[i]?=some { x with ks:=s1,kl:=x.kl++[v],kg:=kg }:=aaw hlt;refine st2.Lz hi2 hb2 λs2 h3 ig e2 st3 f3=>?_;have hbig:i*5+4<S.lz.length:=by rw[dO.lz,hl];omega
 refine st3.Fq (o:=i*5+3) ha (by omega) rfl λh4 st4 f4=>?_;refine st4.Fq (o:=i*5+4) ha (by simp;omega) rfl λh5 st5 f5=>⟨kg,ig,?_,?_⟩
 .have e3:dO.lz (S.gD S.sU S.ng (S.nodes.set i { x with ks:=s1,kl:=x.kl++[v],kg:=kg,is:=s2,il:=x.il++[w],ig:=ig }))=(S.lz.set (i*5+3) (aS s1)).set (i*5+4) (aS s2):=by
   have:=sT eo.iA hi (x':={ x with ks:=s1,kl:=x.kl++[v],kg:=kg,is:=s2,il:=x.il++[w],ig:=ig }) (o:=3) (vs:=[aS s1,aS s2]) (by simp) (by rfl);rw[XQ (by omega)];exact this.symm
  show nQ h5 _ _ (dO.lz _);rw[e3];have e4:(S.nodes.set i { x with ks:=s1,kl:=x.kl++[v],kg:=kg }).set i { x with ks:=s1,kl:=x.kl++[v],kg:=kg,is:=s2,il:=x.il++[w],ig:=ig }=S.nodes.set i { x with ks:=s1,kl:=x.kl++[v],kg:=kg,is:=s2,il:=x.il++[w],ig:=ig }:=List.set_set ..;exact st5.as rfl rfl rfl rfl rfl rfl e4.symm rfl rfl rfl
 .have a1:dO.bG (S.gD S.sU S.ng (S.nodes.set i { x with ks:=s1,kl:=x.kl++[v],kg:=kg,is:=s2,il:=x.il++[w],ig:=ig })) (.key i)=kg:=by
   simp only[dO.bG,dO.gD];rw[aaw hlt]
  have a2:dO.bG (S.gD S.sU S.ng (S.nodes.set i { x with ks:=s1,kl:=x.kl++[v],kg:=kg,is:=s2,il:=x.il++[w],ig:=ig })) (.item i)=ig:=by
   simp only[dO.bG,dO.gD];rw[aaw hlt]
  refine⟨rfl,?_,λs=>?_⟩
  .refine ((((f2.mono st.wf λg hg _=>.inl ⟨.key i,by rw[hg,hki]⟩:Fr S.fp h h2).fresh st.wf f3 λg hg=>.inl ⟨.item i,by rw[hg,hgi]⟩).fresh st.wf f4 λg hg=>.inl ⟨.nodes,hg⟩).fresh st.wf f5 λg hg=>.inl ⟨.nodes,hg⟩)
  .have hz:∀{g g0:Nat},(g=g0/\g0≠0\/g=h.next+1)->g=g0\/h.next<g:=λhh=>by
    rcases hh with⟨q,_⟩|q
    .exact .inl q
    .exact .inr (by omega)
   have e2':ig=x.ig\/h.next<ig:=by
    rcases e2 with⟨q,_⟩|q
    .exact .inl q
    .have:=f2.next;exact .inr (by omega)
   by_cases hk:s=.key i
   .subst hk;rw[a1];rcases hz e1 with q|q
    .exact .inr (.inl ⟨.key i,by rw[hki,q]⟩)
    .exact .inr (.inr q)
   .by_cases hk2:s=.item i
    .subst hk2;rw[a2];rcases e2' with q|q
     .exact .inr (.inl ⟨.item i,by rw[hgi,q]⟩)
     .exact .inr (.inr q)
    .exact .inr (.inl ⟨s,LC hi s (λe=>absurd e hk) (λe=>absurd e hk2)⟩)
theorem nQ.Qk (st:nQ h S c S.lz){i bn o:Nat}{x:eo}(hi:S.nodes[i]?=some x)(ha:S.sU.a=some ⟨bn,0,none⟩)(ho:o<5){l:eh}{v:ξ}{y:l.den}(hv:x.enc[o]?=some v)(hy:xi l v=some y):h.ld l bn (i*5+o)=some y:=by
 have hlt:=(List.getElem?_eq_some_iff.1 hi).1;obtain⟨b2,base,h1,h2,_⟩:=st.BM (by omega);rw[ha] at h1;cases h1;unfold af.ld;rw[h2];simp only;have:S.lz[i*5+o]?=some v:=by rw[dO.lz,P9 eo.iA hi ho,hv]
 rw[this];exact hy
theorem nQ.LD (st:nQ h S c S.lz){i bn:Nat}{x:eo}(hi:S.nodes[i]?=some x)(ha:S.sU.a=some ⟨bn,0,none⟩):h.VP bn (i*5+4)=some x.is:=st.Qk hi ha (by omega) (l:=.sl) (v:=aS x.is) rfl rfl
theorem nQ.VV (st:nQ h S c S.lz){i bn:Nat}{x:eo}(hi:S.nodes[i]?=some x)(ha:S.sU.a=some ⟨bn,0,none⟩):h.VP bn (i*5+3)=some x.ks:=st.Qk hi ha (by omega) (l:=.sl) (v:=aS x.ks) rfl rfl
theorem St.LF (st:St h S){bn i o:Nat}{x x':dB}{v:ξ}(ha:S.Ba.a=some ⟨bn,0,none⟩)(hi:S.au[i]?=some x)(ho:o<9)(hv:fi v=true)(hx':x'.enc=x.enc.set o v){Q:Unit->af->Prop}
  (hq:∀h',St h' (S.tM S.Ba S.sg (S.au.set i x'))->nu h S h' (S.tM S.Ba S.sg (S.au.set i x'))->Q () h'):Wp (bE ⟨bn,i*9+o,none⟩ [v]) h Q:=
 st.To ha hi ho hv hx' λh' st' f=>hq h' st' (nu.one (s0:=.au) rfl f (λs _=>.inl (by cases s<;>rfl)) (.inl rfl) st.wf)
end Go.Sh
