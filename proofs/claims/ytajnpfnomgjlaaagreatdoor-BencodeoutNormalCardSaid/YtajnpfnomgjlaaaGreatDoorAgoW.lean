
import Derived.Test.YtajnpfnomgjlaaaGreatDoorAgoI
set_option linter.all false
namespace Go.Ago
open Go
variable {α β:Type}
def Wp (m:M α)(h:ai)(Q:α->ai->Prop):Prop:=∃x h',m h=some (x,h')/\Q x h'
theorem Wp.mono {m:M α}{h Q Q'}(hm:Wp m h Q)(hq:∀x h',Q x h'->Q' x h'):Wp m h Q':=by
 obtain⟨x,h',e,q⟩:=hm;exact⟨x,h',e,hq _ _ q⟩
theorem ah {m}{f:α->M β}{h Q}:Wp (sh m f) h Q↔Wp m h λx h'=>Wp (f x) h' Q:=by
 constructor
 .rintro⟨y,h2,e,q⟩;unfold sh at e;split at e
  .rename_i x h1 hm;exact⟨x,h1,hm,y,h2,e,q⟩
  .cases e
 .rintro⟨x,h1,hm,y,h2,e,q⟩;exact⟨y,h2,by unfold sh;rw[hm];exact e,q⟩
theorem Wp.bind {m}{f:α->M β}{h Q}(hm:Wp m h λx h'=>Wp (f x) h' Q):Wp (sh m f) h Q:=ah.2 hm
theorem Wp.seq {m}{f:α->M β}{h R Q}(hm:Wp m h R)(hf:∀x h',R x h'->Wp (f x) h' Q):Wp (sh m f) h Q:=ah.2 (hm.mono hf)
theorem ag {x:α}{h Q}:Wp (AI x) h Q↔Q x h:=
 ⟨λ⟨_,_,e,q⟩=>by cases e;exact q,λq=>⟨x,h,rfl,q⟩⟩
theorem agY {p h Q}:Wp (nn p) h Q↔∃a,p=some a/\Q a h:=by
 constructor
 .rintro⟨x,h',e,q⟩;cases p<;>simp[nn] at e
  grind
 .rintro⟨a,rfl,q⟩;exact⟨a,h,rfl,q⟩
theorem qP {a h Q}:Wp (nn (some a)) h Q↔Q a h:=by simp[agY]
theorem VN {b h Q}:Wp (px b) h Q↔b=true/\Q () h:=by
 constructor
 .rintro⟨x,h',e,q⟩;cases b<;>simp[px] at e;grind
 .rintro⟨rfl,q⟩;exact⟨(),h,rfl,q⟩
def ai.ld (h:ai)(l:wu)(b o:Nat):Option l.den:=
 match h.get b with
 |some (.cells c _ _ _)=>(match c[o]? with|some v=>Ae l v|none=>none)
 |_=>none
theorem wV {l a h Q}:Wp (aq l a) h Q↔∃x,h.ld l a.block a.off=some x/\Q x h:=by
 have key:aq l a h=(match h.ld l a.block a.off with|some x=>some (x,h)|none=>none):=by
  unfold aq ai.cell ai.ld
  grind
 constructor
 .rintro⟨x,h',e,q⟩
  grind
 .rintro⟨x,hx,q⟩;exact⟨x,h,by rw[key,hx],q⟩
def ai.ldI (h:ai)(k:IntKind)(b o:Nat):Option Int:=h.ld (.int k) b o
def ai.ldB (h:ai)(b o:Nat):Option Bool:=h.ld .bool b o
def ai.Ht (h:ai)(b o:Nat):Option ζ:=h.ld .str b o
def ai.ldV (h:ai)(b o:Nat):Option Sl:=h.ld .sl b o
def ai.Ei (h:ai)(b o:Nat):Option θ:=h.ld .ptr b o
theorem rQ {k a h Q}:Wp (α:=Int) (aq (.int k) a) h Q↔∃x,h.ldI k a.block a.off=some x/\Q x h:=wV
theorem rR {a h Q}:Wp (α:=Bool) (aq .bool a) h Q↔∃x,h.ldB a.block a.off=some x/\Q x h:=wV
theorem rS {a h Q}:Wp (α:=ζ) (aq .str a) h Q↔∃x,h.Ht a.block a.off=some x/\Q x h:=wV
theorem rT {a h Q}:Wp (α:=Sl) (aq .sl a) h Q↔∃x,h.ldV a.block a.off=some x/\Q x h:=wV
def ai.iN (h:ai) ls (b o:Nat):Option (mD ls):=
 match h.get b with
 |some (.cells c _ _ _)=>if o+ls.length<=c.length then yL ls ((c.drop o).take ls.length) else none
 |_=>none
theorem Ci {ls a h Q}:Wp (aE ls a) h Q↔∃x,h.iN ls a.block a.off=some x/\Q x h:=by
 have key:aE ls a h=(match h.iN ls a.block a.off with|some x=>some (x,h)|none=>none):=by
  unfold aE aQ ai.iN
  grind
 constructor
 .rintro⟨x,h',e,q⟩
  grind
 .rintro⟨x,hx,q⟩;exact⟨x,h,by rw[key,hx],q⟩
theorem Gs {a vs h Q} :
  Wp (bh a vs) h Q↔∃c g base e,h.get a.block=some (.cells c g base e)/\g≠0/\a.off+vs.length<=c.length/\vs.all eS=true/\Q () (h.qf a.block (aU c a.off vs) g base e):=by
 constructor
 .rintro⟨x,h',e,q⟩
  grind [bh]
 .rintro⟨c,g,b,el,hg,h1,h2,h3,q⟩;exact⟨(),_,by unfold bh;grind,q⟩
theorem Gt {e cs h Q}:Wp (aF none e cs) h Q↔cs.all eS=true/\Q h.next (h.new e cs):=by
 constructor
 .rintro⟨x,h',he,q⟩
  grind [aF]
 .rintro⟨hc,q⟩;exact⟨_,_,by unfold aF;rw[By hc],q⟩
theorem VO {k e cs h Q} :
  Wp (aF (some k) e cs) h Q↔cs.all eS=true/\h.used k=false/\k<h.next/\h.get k=none/\Q k (h.aX k h.next e cs):=by
 constructor
 .rintro⟨x,h',he,q⟩;unfold aF at he;split at he
  .rename_i hc;simp only at he;split at he
   .rename_i hd;cases he;simp_all
   .cases he
  .cases he
 .rintro⟨hc,h1,h2,h3,q⟩;exact⟨_,_,by unfold aF;grind,q⟩
theorem OY {n h Q}:Wp (dz n) h Q↔Q h.next { h with next:=h.next+n }:=
 ⟨λ⟨_,_,e,q⟩=>by cases e;exact q,λq=>⟨_,_,rfl,q⟩⟩
theorem aai {l}{n:Nat}{cs i h v x Q}(h1:0<=i)(h2:i<(n:Int))(hv:cs[i.toNat]?=some v)(hx:Ae l v=some x)(q:Q x h):Wp (A9 l n cs i) h Q:=
 ⟨x,h,by unfold A9;grind,q⟩
theorem jW {s i h Q}:Wp (oL s i) h Q↔∃b,0<=i/\s[i.toNat]?=some b/\Q b h:=by
 constructor
 .rintro⟨x,h',e,q⟩
  grind [oL]
 .rintro⟨b,hi,hb,q⟩;exact⟨b,h,by unfold oL;rw[By hi,hb],q⟩
theorem gM {s lo hi h Q}:Wp (iq s lo hi) h Q↔0<=lo/\lo<=hi/\hi<=s.size/\Q (s.extract lo.toNat hi.toNat) h:=by
 constructor
 .rintro⟨x,h',e,q⟩
  grind [iq,FM]
 .rintro⟨h1,h2,h3,q⟩;exact⟨_,h,by unfold iq;rw[By ⟨h1,h2,h3⟩,FM],q⟩
theorem xW {s i z h Q}:Wp (ar s i z) h Q↔∃a,s.a=some a/\0<=i/\i<s.len/\Q (a.plus (i.toNat*z)) h:=by
 constructor
 .rintro⟨x,h',e,q⟩
  grind [ar]
 .rintro⟨a,ha,h1,h2,q⟩;exact⟨_,h,by unfold ar;grind,q⟩
theorem Cj {x y h Q}:Wp (nN x y) h Q↔x.size+y.size<=cF/\Q (x++y) h:=by
 constructor
 .rintro⟨z,h',e,q⟩
  grind [nN]
 .rintro⟨hc,q⟩;exact⟨_,h,by unfold nN;rw[By hc],q⟩
theorem Iv {v h Q}:Wp (ke v) h Q↔(v=.nilIface/\Q true h)\/(∃t u,v=.iface t u/\Q false h):=by
 constructor
 .rintro⟨x,h',e,q⟩;unfold ke at e
  grind
 .rintro (⟨rfl,q⟩|⟨t,u,rfl,q⟩)
  .exact⟨true,h,rfl,q⟩
  .exact⟨false,h,rfl,q⟩
structure WF (h:ai):Prop where
 get:∀j,h.next<=j->h.get j=none
 used:∀j,h.next<=j->h.used j=false
 eI:∀j c g b e,h.get j=some (.cells c g b e)->g<=h.next
 maps:∀j,h.used j=false->h.gH j=none
theorem cu {j n:Nat}{b}(h:cond (Nat.beq j n) true b=false):j≠n/\b=false:=by
 rw[aN] at h;grind
theorem WF.mlt {h}(hw:WF h){j x}(hx:h.gH j=some x):j<h.next:=by
 by_cases hj:j<h.next
 .exact hj
 .rw[hw.maps j (hw.used j (by omega))] at hx;cases hx
structure Fr (X:Nat->Prop) (h h':ai):Prop where
 wf:WF h'
 next:h.next<=h'.next
 cells:∀j c g b e,h.get j=some (.cells c g b e)->(X g->g=0)->h'.get j=some (.cells c g b e)
 lN:∀g,g<=h.next->(X g->g=0)->h'.lN g=h.lN g
 used:∀j,j<h.next->h'.used j=h.used j
 none:∀j,j<h.next->h.get j=none->h'.get j=none
 maps:∀j x,h.gH j=some x->¬X (j+1)->h'.gH j=some x
theorem Fr.refl {X h}(hw:WF h):Fr X h h:=⟨hw,abi _,λ_ _ _ _ _ e _=>e,λ_ _ _=>rfl,λ_ _=>rfl,λ_ _ e=>e,λ_ _ e _=>e⟩
theorem Fr.trans {X Y h h1 h2}(hw:WF h)(a:Fr X h h1)(b:Fr Y h1 h2)(hy:∀g,Y g->g≠0->X g\/h.next<g):Fr X h h2:=by
 refine⟨b.wf,adr a.next b.next,?_,?_,?_,?_,λj x hj hx=>?_⟩
 .intro j c g bs e hj hg;refine b.cells j c g bs e (a.cells j c g bs e hj hg) λhm=>?_;by_cases h0:g=0
  .exact h0
  .rcases hy g hm h0 with h3|h3
   .exact hg h3
   .have:=hw.eI j c g bs e hj;omega
 .intro g hg hx;have hx1:Y g->g=0:=λhm=>by
   grind
  rw[b.lN g (adr hg a.next) hx1,a.lN g hg hx]
 .intro j hj;rw[b.used j (ahb hj a.next),a.used j hj]
 .intro j hj hn;exact b.none j (ahb hj a.next) (a.none j hj hn)
 .have hlt:=hw.mlt hj;refine b.maps j x (a.maps j x hj hx) λhy2=>?_
  grind
theorem Fr.mono {X Y h h'}(hw:WF h)(a:Fr X h h')(hs:∀g,X g->g≠0->Y g\/h.next<g):Fr Y h h':=
 Fr.trans hw (Fr.refl hw) a hs
theorem kE (j:Nat):Nat.beq j j=true:=ahX j
theorem bB {i j:Nat}(h:i≠j):Nat.beq i j=false:=by
 grind [absurd,Nat.eq_of_beq_eq_true]
theorem xX {h:ai}{b c g base e}:(h.qf b c g base e).get b=some (.cells c g base e):=by
 simp[ai.qf,kE]
theorem OZ {h:ai}{b j c g base e c' g' b' e'}(hj:h.get j=some (.cells c' g' b' e'))(hg:g'≠g)(hb:j≠b) :
  (h.qf b c g base e).get j=some (.cells c' g' b' e'):=by
 simp[ai.qf,bB hb,hj,bB hg]
theorem wW {h:ai}{b j c g base e k}(hj:(h.qf b c g base e).get j=some k):(j=b/\k=.cells c g base e)\/(j≠b/\h.get j=some k):=by
 unfold ai.qf at hj;simp at hj;by_cases hb:j=b
 .simp_all
 grind [bB]
theorem WF.qf {h}(hw:WF h){b c c0 g base base0 e e0}(hb:h.get b=some (.cells c0 g base0 e0)):WF (h.qf b c g base e):=by
 have hlt:b<h.next:=by
  by_cases hx:b<h.next
  .exact hx
  .rw[hw.get b (by omega)] at hb;cases hb
 refine⟨λj hj=>?_,hw.used,λj c' g' b' e' hj=>?_,hw.maps⟩
 .have h0:=hw.get j hj;have hj:h.next<=j:=hj
  cases hq:(h.qf b c g base e).get j with
  |none=>rfl
  |some k=>
   rcases wW hq with⟨h1,_⟩|⟨_,h1⟩
   .omega
   grind
 .rcases wW hj with⟨_,h1⟩|⟨_,h1⟩
  .cases h1;exact hw.eI _ _ _ _ _ hb
  .exact hw.eI _ _ _ _ _ h1
theorem Fr.qf {h}(hw:WF h){b c c0 g base base0 e e0}(h0:g≠0)(hb:h.get b=some (.cells c0 g base0 e0)):Fr (·=g) h (h.qf b c g base e):=by
 refine⟨hw.qf hb,abi _,?_,λ_ _ _=>rfl,λ_ _=>rfl,?_,λ_ _ e _=>e⟩
 .intro j c' g' b' e' hj hg;have hg:g'≠g:=λe1=>h0 (by rw[<-e1];exact hg e1);refine OZ hj hg λhjb=>?_
  grind
 .intro j hj hn;cases hq:(h.qf b c g base e).get j with
  |none=>rfl
  |some k=>
   rcases wW hq with⟨h1,_⟩|⟨_,h1⟩
   .grind
   grind
theorem kU {h:ai}{nm nx e cs}:(h.aX nm nx e cs).get nm=some (.cells cs (nm+1) 0 e):=by
 simp[ai.aX,kE]
theorem ff {h:ai}{nm nx j e cs}(hj:j≠nm):(h.aX nm nx e cs).get j=h.get j:=by
 simp[ai.aX,bB hj]
theorem HH {h:ai}{nm nx e cs}:(h.aX nm nx e cs).lN (nm+1)=cs.length:=by
 simp[ai.aX,kE]
theorem wE {h:ai}{nm nx g e cs}(hg:g≠nm+1):(h.aX nm nx e cs).lN g=h.lN g:=by
 simp[ai.aX,bB hg]
theorem WF.aX {h}(hw:WF h){nm nx}(h1:nm<nx)(h2:h.next<=nx){e cs}:WF (h.aX nm nx e cs):=by
 refine⟨λj hj=>?_,λj hj=>?_,λj c g b e' hj=>?_,λj hj=>hw.maps j (cu hj).2⟩
 .have hj:nx<=j:=hj;rw[ff (by omega)];exact hw.get j (by omega)
 .have hj:nx<=j:=hj;simp[ai.aX,bB (show j≠nm by omega)];exact hw.used j (by omega)
 .by_cases hn:j=nm
  .subst hn;rw[kU] at hj;cases hj;exact h1
  .rw[ff hn] at hj;exact adr (hw.eI _ _ _ _ _ hj) h2
theorem WF.new {h}(hw:WF h){e cs}:WF (h.new e cs):=hw.aX (IT _) (ags _)
theorem Fr.new {h}(hw:WF h){e cs}:Fr (λ_=>False) h (h.new e cs):=by
 refine⟨hw.new,ags _,?_,?_,?_,?_,λ_ _ e _=>e⟩
 .intro j c g b e' hj _;rw[ai.new,ff]
  .exact hj
  .intro hn;subst hn;rw[hw.get _ (abi _)] at hj;cases hj
 .intro g hg _;exact wE (by omega)
 .intro j hj;simp[ai.new,ai.aX,bB (show j≠h.next by omega)]
 grind [ai.new,ai.new,ff]
theorem WF.dz {h}(hw:WF h){n}:WF { h with next:=h.next+n }:=
 ⟨λj hj=>hw.get j (by simp at hj;omega),λj hj=>hw.used j (by simp at hj;omega),λj c g b e hj=>adr (hw.eI j c g b e hj) (by simp),λj hj=>hw.maps j hj⟩
theorem Fr.dz {h}(hw:WF h){n}:Fr (λ_=>False) h { h with next:=h.next+n }:=
 ⟨hw.dz,by simp,λ_ _ _ _ _ e _=>e,λ_ _ _=>rfl,λ_ _=>rfl,λ_ _ e=>e,λ_ _ e _=>e⟩
theorem Fr.aX {X h0 h}(hw:WF h0)(a:Fr X h0 h){k}(hk:h0.next<=k)(hk2:k<h.next){e cs}:Fr X h0 (h.aX k h.next e cs):=by
 refine⟨a.wf.aX hk2 (abi _),a.next,?_,?_,?_,?_,λj x hj hx=>a.maps j x hj hx⟩
 .intro j c g b e' hj hg;have:=a.cells j c g b e' hj hg;by_cases hn:j=k
  .subst hn;rw[hw.get j hk] at hj;cases hj
  grind [ff]
 .intro g hg hx;rw[wE (by omega)];exact a.lN g hg hx
 .intro j hj;have:j≠k:=by omega
  simp[ai.aX,bB this];exact a.used j hj
 .intro j hj hn;rw[ff (by omega)];exact a.none j hj hn
def ue (h:ai)(s:Sl)(sz:Nat)(e:κ)(cs:δ)(g:Nat):Prop:=
 cs.length=s.len*sz/\((s=⟨none,0,0⟩/\g=0)\/(0<g/\g<=h.next/\(s.cap=0\/s.cap=s.len+1)/\∃b base,s.a=some ⟨b,0,none⟩/\h.get b=some (.cells cs g base e)/\h.lN g=base+cs.length))
theorem ue.nil {h sz e}:ue h ⟨none,0,0⟩ sz e [] 0:=⟨by simp,.inl ⟨rfl,rfl⟩⟩
theorem ue.fr {h h' s sz e cs g X}(o:ue h s sz e cs g)(f:Fr X h h')(hg:X g->g=0):ue h' s sz e cs g:=by
 obtain⟨h1,h2⟩:=o;refine⟨h1,?_⟩;rcases h2 with h2|⟨h2,h3,h4,b,base,h5,h6,h7⟩
 .exact .inl h2
 .exact .inr ⟨h2,adr h3 f.next,h4,b,base,h5,f.cells _ _ _ _ _ h6 hg,by rw[f.lN g h3 hg];exact h7⟩
theorem ue.au {h s sz e cs g}(o:ue h s sz e cs g)(hn:s.len≠0) :
  ∃b base,s.a=some ⟨b,0,none⟩/\h.get b=some (.cells cs g base e)/\g≠0:=by
 obtain⟨_,h2⟩:=o
 grind
theorem ue.le {h s sz e cs g}(o:ue h s sz e cs g):g<=h.next:=by
 obtain⟨_,h2⟩:=o
 grind
theorem ue.read {h s sz e cs g}(o:ue h s sz e cs g):aQ h s.a (s.len*sz)=some cs:=by
 obtain⟨h1,h2⟩:=o
 grind [aQ]
theorem ue.qf {h s sz e cs cs' g b base}(o:ue h s sz e cs g)(hl:cs'.length=cs.length)(hn:s.len≠0)
  (ha:s.a=some ⟨b,0,none⟩)(hb:h.get b=some (.cells cs g base e)):ue (h.qf b cs' g base e) s sz e cs' g:=by
 obtain⟨h1,h2⟩:=o;rcases h2 with⟨rfl,_⟩|⟨h2,h3,h4,b2,base2,h5,h6,h7⟩
 .exact absurd rfl hn
 .rw[ha] at h5;cases h5;rw[hb] at h6;cases h6;exact⟨by omega,.inr ⟨h2,h3,h4,b,base,ha,xX,by rw[hl];exact h7⟩⟩
theorem ue.app {h s sz e cs new g n st Q}(o:ue h s sz e cs g)(hw:WF h)(hn:n≠0)(hl:new.length=n*sz)(hb:s.len+n<=cF)
  (hq:∀s' h' g',s'.len=s.len+n->s'.cap=0->ue h' s' sz e (cs++new) g'->(g'=g/\g≠0\/g'=h.next+1)->Fr (·=g) h h'->Q s' h'):Wp (Ago.app st s sz e n new) h Q:=by
 obtain⟨h1,h2⟩:=o;have hnx:=hw.get h.next (abi _)
 have key:Ago.app st s sz e n new h=oK st s sz e n new h:=by unfold Ago.app;simp[hnx]
 suffices hh:∃s' h' ,oK st s sz e n new h=some (s',h')/\Q s' h' by
  obtain⟨s',h',e1,e2⟩:=hh;exact⟨s',h',by rw[key];exact e1,e2⟩
 have fresh:ue (h.new e (cs++new)) ⟨some ⟨h.next,0,none⟩,s.len+n,0⟩ sz e (cs++new) (h.next+1):=
  ⟨by grind,.inr ⟨by omega,by simp[ai.new,ai.aX],.inl rfl,h.next,0,rfl,kU,by rw[ai.new,HH];simp⟩⟩
 have ffr:Fr (·=g) h (h.new e (cs++new)):=(Fr.new hw).mono hw (λ_ hx _=>hx.elim)
 rcases h2 with⟨rfl,rfl⟩|⟨h2,h3,h4,b,base,h5,h6,h7⟩
 .have hc:cs=[]:=adW (by simpa using h1);subst hc;refine⟨_,_,?_,hq _ _ _ rfl rfl fresh (.inr rfl) ffr⟩;unfold oK
  grind
 .have hcells:aQ h (some ⟨b,0,none⟩) (s.len*sz)=some cs:=by grind [aQ]
  rcases h4 with h4|h4
  ·-- in the same group
   refine⟨⟨some ⟨h.next,0,none⟩,s.len+n,0⟩,{ h with get:=λj=>cond (Nat.beq j h.next) (some (.cells (cs++new) g (base+0) e)) (h.get j),next:=h.next+1,lN:=λg'=>cond (Nat.beq g' g) (base+0+s.len*sz+new.length) (h.lN g'),used:=λj=>cond (Nat.beq j h.next) true (h.used j) },?_,hq _ _ g rfl rfl ?_ (.inl ⟨rfl,by omega⟩) ?_⟩
   .unfold oK
    grind [nL]
   .refine⟨by grind,.inr ⟨h2,by simp;omega,.inl rfl,h.next,base+0,rfl,by simp[kE],?_⟩⟩
    grind [kE]
   .refine⟨⟨λj hj=>?_,λj hj=>?_,λj c g' b' e' hj=>?_,λj hj=>hw.maps j (cu hj).2⟩,ags _,?_,?_,?_,?_,λ_ _ e _=>e⟩
    .simp at hj;simp[bB (show j≠h.next by omega)];exact hw.get j (by omega)
    .simp at hj;simp[bB (show j≠h.next by omega)];exact hw.used j (by omega)
    .simp only at hj;by_cases hjn:j=h.next
     .grind
     .simp[bB hjn] at hj;have:=hw.eI _ _ _ _ _ hj;simp;omega
    .grind [bB]
    .grind [bB]
    .grind [bB]
    grind [bB]
  .refine⟨_,_,?_,hq _ _ _ rfl rfl fresh (.inr rfl) ffr⟩;unfold oK
   grind
theorem gN {enc:α->δ}{sz}(he:∀x,(enc x).length=sz):∀(L:List α),(L.flatMap enc).length=L.length*sz
 |[]=>by simp
 |x::L=>by rw[adX,adn,he,gN he L,acp,agz,ajf,aki]
theorem Iw {enc:α->δ}{sz}(he:∀x,(enc x).length=sz):∀(L:List α) i ,(L.flatMap enc).drop (i*sz)=(L.drop i).flatMap enc
 |L,0=>by simp
 |[],i+1=>by simp
 |x::L,i+1=>by
  rw[adX,List.drop_succ_cons,<-Iw he L i,agz,ajf,aki,<-aih]
  grind
theorem Su {enc:α->δ}{sz}(he:∀x,(enc x).length=sz){L:List α}{i x}(hi:L[i]?=some x):((L.flatMap enc).drop (i*sz)).take sz=enc x:=by
 grind [Iw,List.getElem?_eq_some_iff,List.drop_eq_getElem_cons,List.take_left]
theorem wF {enc sz}(he:∀x,(enc x).length=sz){L:List α}{i x x'}(hi:L[i]?=some x){o vs}(ho:o+vs.length<=sz)(hx:enc x'=aU (enc x) o vs) :
  aU (L.flatMap enc) (i*sz+o) vs=(L.set i x').flatMap enc:=by
 have hlt:=(List.getElem?_eq_some_iff.1 hi).1;have hL:L=L.take i++x::L.drop (i+1):=by
  grind [List.drop_eq_getElem_cons,List.getElem?_eq_some_iff,List.take_append_drop]
 have hs:L.set i x'=L.take i++x'::L.drop (i+1):=by grind
 have hl:((L.take i).flatMap enc).length=i*sz:=by grind [gN,List.length_take,Nat.min_eq_left,Nat.le_of_lt]
 rw[hs,aiO,adX,hx]
 conv=>lhs;rw[hL]
 rw[aiO,adX];unfold aU;rw[<-hl,List.take_length_add_append,aiM,List.drop_length_add_append,List.take_append_of_le_length (by rw[he];omega),List.drop_append_of_le_length (by rw[he];omega)];simp
structure LB (h:ai) (b:Nat) (cs:δ) (e:κ):Prop where
 get:h.get b=some (.cells cs (b+1) 0 e)
theorem LB.new {h:ai}{e cs}:LB (h.new e cs) h.next cs e:=⟨kU⟩
theorem LB.fr {h h' b cs e X}(l:LB h b cs e)(f:Fr X h h')(hx:¬X (b+1)):LB h' b cs e:=⟨f.cells _ _ _ _ _ l.get λhm=>absurd hm hx⟩
theorem LB.lt {h b cs e}(l:LB h b cs e)(hw:WF h):b<h.next:=by
 have:=hw.eI _ _ _ _ _ l.get;omega
theorem LB.st {h b o cs vs e}(l:LB h b cs e)(hw:WF h)(ho:o+vs.length<=cs.length)(hv:vs.all eS=true){Q}
  (hq:∀h',LB h' b (aU cs o vs) e->Fr (·=b+1) h h'->Q () h'):Wp (bh ⟨b,o,none⟩ vs) h Q:=by
 rw[Gs];exact⟨cs,b+1,0,e,l.get,by omega,ho,hv,hq _ ⟨xX⟩ (Fr.qf hw (by omega) l.get)⟩
theorem LB.ld {h b o cs e}(l:LB h b cs e){lf v x}(hv:cs[o]?=some v)(hx:Ae lf v=some x):h.ld lf b o=some x:=by
 unfold ai.ld;rw[l.get];simp[hv];exact hx
theorem LB.iN {h b o cs e}(l:LB h b cs e){ls x}(hl:o+ls.length<=cs.length)(hx:yL ls ((cs.drop o).take ls.length)=some x):h.iN ls b o=some x:=by
 unfold ai.iN;rw[l.get];grind
theorem Fr.fresh {X Y h0 h h'}(hw:WF h0)(a:Fr X h0 h)(b:Fr Y h h')(hg:∀g,Y g->X g\/h0.next<g):Fr X h0 h':=a.trans hw b λg hy _=>hg g hy
theorem Jf {e z}{l c:Int}{h Q}(h1:0<=l)(h2:l<=c)(h3:c<=cF)(q:Q ⟨some ⟨h.next,0,none⟩,l.toNat,c.toNat+1⟩ (h.new e (List.replicate c.toNat z).flatten))(hz:z.all eS=true:=by rfl):Wp (qM none e z l c) h Q:=by
 have hs:(List.replicate c.toNat z).flatten.all eS=true:=by
  grind
 exact⟨_,_,by unfold qM aF;grind,q⟩
theorem VR {k e z}{l c:Int}{h Q}(h1:0<=l)(h2:l<=c)(h3:c<=cF)(k1:h.used k=false)(k2:k<h.next)(k3:h.get k=none)
  (q:Q ⟨some ⟨k,0,none⟩,l.toNat,c.toNat+1⟩ (h.aX k h.next e (List.replicate c.toNat z).flatten))(hz:z.all eS=true:=by rfl):Wp (qM (some k) e z l c) h Q:=by
 have hs:(List.replicate c.toNat z).flatten.all eS=true:=by
  grind
 exact⟨_,_,by unfold qM aF;grind,q⟩
theorem rn {s}{lo hi:Int}{e z h Q}(h1:0<=lo)(h2:lo<=hi)(h3:hi<=s.len)(h4:kc h s e=true)
  (q:Q ⟨s.a.map (·.plus (lo.toNat*z)),hi.toNat-lo.toNat,s.cap-(if s.cap=0 then 0 else lo.toNat)⟩ h):Wp (gm s lo hi e z) h Q:=
 ⟨_,_,by unfold gm;grind,q⟩
theorem Dj {m:M α}{as h Q}(hm:Wp m h λx h'=>(∀a,some a∈as->h'.get a.block=h.get a.block)/\Q x h'):Wp (k8 as m) h Q:=by
 obtain⟨x,h',e,hs,q⟩:=hm;refine⟨x,h',?_,q⟩;have:sameAt h h' as=true:=by
  clear e q
  induction as with
  |nil=>rfl
  |cons a r ih=>
   have ih:=ih λa ha=>hs a (IN _ ha);cases a with
   |none=>exact ih
   |some b=>
    have hb:=hs b (by simp);unfold sameAt;cases acf h h' b with
    |isTrue _=>exact ih
    |isFalse hn=>exact absurd (gb.of hb) hn
 grind [k8]
theorem aaj {k}{m:M α}{h Q}(hm:Wp m h λx h1=>BP k m h x h1/\Q x h1):Wp (rH k m) h Q:=by
 obtain⟨x,h1,e,hb,q⟩:=hm;refine⟨x,h1,?_,q⟩;unfold rH;rw[e];simp;split
 .rfl
 grind
theorem jn {cs x c h Q}(hx:wv cs (FO x)=some c)(q:Q c h):Wp (k7 cs x) h Q:=
 ⟨c,h,by unfold k7;rw[hx],q⟩
theorem aeo {k k'}(h:Qo k k'=true):k=k':=by cases k<;>cases k'<;>simp_all[Qo,Qn]
theorem Bl {a b}(h:qE a b=true):a=b:=by
 rw[tY] at h;have h:=beq_iff_eq.1 h;rw[ByteArray.toList_eq,ByteArray.toList_eq] at h;cases a;simp_all
theorem QI {v u}(h:CS v u=true):v=u:=by
 cases v<;>cases u<;>simp only[CS,ach,acu] at h<;>try cases h
 .grind
 .grind [aeo]
 .rw[Bl h]
theorem QJ:∀{xs ys},As xs ys=true->xs=ys
 |[],[],_=>rfl
 |[],_::_,h=>by cases h
 |_::_,[],h=>by cases h
 |x::xs,y::ys,h=>by
  simp[As,ach] at h;rw[QI h.1,QJ h.2]
theorem VS {x y}(h:BX x y=true):x=y:=by
 unfold BX at h
 grind [Array.toList_inj,QJ,QI]
theorem xY {k v k' c}:∀{es},yD k' (rC k v c es)=if BX k' k then some v else yD k' es
 |[]=>by grind [rC,yD,hC,BX]
 |e::r=>by
  have ih:=xY (k:=k) (v:=v) (k':=k') (c:=c) (es:=r)
  grind [rC,BX,yD,hC,VS]
theorem Cm {k v c}:∀{es},(rC k v c es).length=if (hC k es).isSome then es.length else es.length+1
 |[]=>rfl
 |e::r=>by
  have ih:=Cm (k:=k) (v:=v) (c:=c) (es:=r)
  grind [BX,rC,hC,List.length_cons]
def rU (c:Nat):List Ew->Prop
 |[]=>True
 |e::r=>e.born<c/\(∀x∈r,x.born≠e.born)/\rU c r
theorem rU.mono {c c'}(hc:c<=c'):∀{es},rU c es->rU c' es
 |[],_=>trivial
 |e::r,h=>⟨ahb h.1 hc,h.2.1,rU.mono hc h.2.2⟩
theorem rU.lt {c}:∀{es},rU c es->∀e∈es,e.born<c
 |[],_=>by simp
 |e::r,h=>λx hx=>by
  rcases List.mem_cons.1 hx with rfl|hx
  .exact h.1
  .exact rU.lt h.2.2 x hx
theorem Ix {k v c}:∀{es},∀x∈rC k v c es,(∃y∈es,x.born=y.born)\/x.born=c
 |[]=>by simp[rC]
 |e::r=>by
  intro x hx;simp[rC] at hx;split at hx
  .grind
  .rcases List.mem_cons.1 hx with rfl|hx
   .grind
   .rcases Ix x hx with⟨y,h1,h2⟩|h1
    .grind
    .exact .inr h1
theorem rU.put {k v c c'}(hc:c<=c'):∀{es},rU c es->(hC k es=none->c<c')->rU c' (rC k v c es)
 |[],_,h=>⟨h rfl,by simp,trivial⟩
 |e::r,hs,h=>by
  simp[rC];simp[hC] at h;cases hq:BX k e.key
  .rw[hq] at h;refine⟨ahb hs.1 hc,λx hx=>?_,rU.put hc hs.2.2 h⟩;rcases Ix x hx with⟨y,h1,h2⟩|h1
   .rw[h2];exact hs.2.1 y h1
   .rw[h1];have:=hs.1;omega
  .exact⟨ahb hs.1 hc,hs.2.1,hs.2.2.mono hc⟩
structure MB (h:ai) (m:Nat) (kt:κ) (f:ξ->Option ξ) (n:Nat):Prop where
 ex:∃c es,h.gH m=some ⟨kt,c,es⟩/\rU c es/\(∀k,yD k es=f k)/\es.length=n
theorem MB.lt {h m kt f n}(l:MB h m kt f n)(hw:WF h):m<h.next:=by
 obtain⟨c,es,h1,_⟩:=l.ex;exact hw.mlt h1
theorem MB.fr {h h' m kt f n X}(l:MB h m kt f n)(fr:Fr X h h')(hx:¬X (m+1)):MB h' m kt f n:=by
 obtain⟨c,es,h1,h2⟩:=l.ex;exact⟨c,es,fr.maps _ _ h1 hx,h2⟩
theorem Gu {h:ai}{m kt c es}(hm:h.gH m=some ⟨kt,c,es⟩):h.vC kt m=some (c,es):=by
 unfold ai.vC;rw[hm];simp[kE]
theorem MY {kt h}(hw:WF h){Q}(hq:∀h',MB h' h.next kt (λ_=>none) 0->Fr (λ_=>False) h h'->Q h.next h'):Wp (xc kt) h Q:=by
 refine⟨_,_,rfl,hq _ ⟨0,[],by simp[ai.mE,kE],trivial,λ_=>rfl,rfl⟩ ⟨⟨λj hj=>?_,λj hj=>?_,λj c g b e hj=>?_,λj hj=>?_⟩,ags _,λ_ _ _ _ _ e _=>e,λ_ _ _=>rfl,λj hj=>?_,λ_ _ e=>e,λj x hj _=>?_⟩⟩
 .exact hw.get j (by simp at hj;omega)
 .simp at hj;simp[bB (show j≠h.next by omega)];exact hw.used j (by omega)
 .exact adr (hw.eI j c g b e hj) (by simp)
 .simp[ai.mE,bB (cu hj).1];exact hw.maps j (cu hj).2
 .grind [bB]
 .have:=hw.mlt hj;simp[ai.mE,bB (show j≠h.next by omega)];exact hj
theorem Fr.mE {h}(hw:WF h){m x y}(hm:h.gH m=some y):Fr (·=m+1) h (h.mE m x):=by
 refine⟨⟨hw.get,hw.used,hw.eI,λj hj=>?_⟩,abi _,λ_ _ _ _ _ e _=>e,λ_ _ _=>rfl,λ_ _=>rfl,λ_ _ e=>e,λj x hj hx=>?_⟩
 .have hj:h.used j=false:=hj;have hn:=hw.maps j hj;simp[ai.mE,bB (show j≠m from λe=>by grind)];exact hn
 grind [ai.mE,bB]
theorem MB.aiu {h m kt f n}(l:MB h m kt f n){T z k Q}
  (h1:∀v,f k=some v->∃x,Ic T v=some x/\Q (true,x) h)(h2:f k=none->Q (false,z) h):Wp (um kt T z (some m) k) h Q:=by
 obtain⟨c,es,e1,_,e2,_⟩:=l.ex;unfold Wp um;simp only[Gu e1,e2]
 grind
def Bm (f:ξ->Option ξ)(k v:ξ):ξ->Option ξ:=λk'=>if BX k' k then some v else f k'
theorem MB.aiv {h m kt f n}(l:MB h m kt f n)(hw:WF h){k v Q}
  (hq:∀h',MB h' m kt (Bm f k v) (if (f k).isSome then n else n+1)->Fr (·=m+1) h h'->Q () h'):Wp (FN kt (some m) k v) h Q:=by
 have hlt:=l.lt hw;obtain⟨c,es,e1,e3,e2,e4⟩:=l.ex;unfold Wp FN;simp only[Gu e1];have hk:(hC k es).isSome=(f k).isSome:=by grind [yD,hC]
 refine⟨(),h.mE m ⟨kt,(match hC k es with|some _=>c|none=>c+1),rC k v c es⟩,rfl,hq _ ⟨_,_,by simp[ai.mE,kE];exact⟨rfl,rfl⟩,?_,λk'=>?_,?_⟩ (Fr.mE hw e1)⟩
 .cases hm:hC k es with
  |none=>exact e3.put (ags _) λ_=>IT _
  |some x=>exact e3.put (abi _) λhn=>by rw[hm] at hn;cases hn
 .rw[xY,e2];rfl
 .rw[Cm,hk,e4]
theorem MB.len {h m kt f n}(l:MB h m kt f n){Q}(q:Q n h):Wp (LY (some m)) h Q:=by
 obtain⟨c,es,e1,_,_,e4⟩:=l.ex;exact⟨n,h,by grind [LY],q⟩
def Cn (h:ai)(m:Nat)(k:ξ)(st:Nat):Prop:=∃x,h.gH m=some x/\∃e,hC k x.es=some e/\e.born=st
theorem Cn.fr {h h' m k st X}(l:Cn h m k st)(fr:Fr X h h')(hx:¬X (m+1)):Cn h' m k st:=by
 obtain⟨x,h1,h2⟩:=l;exact⟨x,fr.maps _ _ h1 hx,h2⟩
theorem Gv {k v c}(hk:BX k k=true):∀{es},hC k es=none->hC k (rC k v c es)=some ⟨k,v,c⟩
 |[],_=>by simp[rC,hC,hk]
 |e::r,h=>by
  simp[hC] at h;simp[rC];cases hq:BX k e.key
  .rw[hq] at h;simp[hC,hq];exact Gv hk h
  .rw[hq] at h;cases h
theorem MB.entry {h m kt f n}(l:MB h m kt f n)(hw:WF h){T z k}(hk:BX k k=true){Q}
  (h1:∀v,f k=some v->∃x,Ic T v=some x/\∀st,Cn h m k st->Q (x,st) h)
  (h2:f k=none->∀h' st,MB h' m kt (Bm f k (CR T z)) (n+1)->Cn h' m k st->Fr (·=m+1) h h'->Q (z,st) h'):Wp (oM kt T z (some m) k) h Q:=by
 have hlt:=l.lt hw;obtain⟨c,es,e1,e3,e2,e4⟩:=l.ex;unfold Wp oM;simp only[Gu e1];cases hm:hC k es with
 |none=>
  have hf:f k=none:=by grind [yD]
  refine⟨_,_,rfl,h2 hf _ _ ⟨c+1,rC k (CR T z) c es,by simp[ai.mE,kE],e3.put (ags _) λ_=>IT _,λk'=>?_,?_⟩ ⟨⟨kt,c+1,rC k (CR T z) c es⟩,by simp[ai.mE,kE],⟨k,CR T z,c⟩,Gv hk hm,rfl⟩ (Fr.mE hw e1)⟩
  .rw[xY,e2];rfl
  grind [Cm]
 |some e=>
  have hf:f k=some e.val:=by grind [yD]
  obtain⟨x,hx,q⟩:=h1 _ hf;simp only[hx];exact⟨_,_,rfl,q _ ⟨_,e1,e,hm,rfl⟩⟩
theorem Gw {k v c}:∀{es} {e},rU c es->hC k es=some e->B3 e.born v es=some (rC k v c es)
 |[],e,_,h=>by cases h
 |x::r,e,hs,h=>by
  simp[hC] at h;simp[B3,rC];cases hq:BX k x.key
  .rw[hq] at h;have hmem:∀{es:List Ew},hC k es=some e->e∈es:=by
    intro es
    induction es with
    |nil=>intro h;cases h
    |cons y r ih=>
     grind [hC,List.mem_cons_of_mem]
   have hne:=hs.2.1 e (hmem h);rw[bB (λe2=>hne e2.symm)];simp;rw[Gw hs.2.2 h]
  grind [kE,VS]
theorem MB.store {h m kt f n}(l:MB h m kt f n)(hw:WF h){k v st}(hs:Cn h m k st){Q}
  (hq:∀h',MB h' m kt (Bm f k v) n->Fr (·=m+1) h h'->Q () h'):Wp (qF (some m) (st:Int) v) h Q:=by
 have hlt:=l.lt hw;obtain⟨c,es,e1,e3,e2,e4⟩:=l.ex;obtain⟨x,h1,e,h2,rfl⟩:=hs;rw[e1] at h1;cases h1;have hp:=Gw (v:=v) e3 h2;have hd:decide (0<=((e.born:Nat):Int))=true:=by simp
 unfold Wp qF;simp only[e1,hd,aa1,hp];refine⟨(),h.mE m ⟨kt,c,rC k v c es⟩,rfl,hq _ ⟨c,rC k v c es,by simp[ai.mE,kE],e3.put (abi _) (λhn=>by grind),λk'=>?_,?_⟩ (Fr.mE hw e1)⟩
 .rw[xY,e2];rfl
 grind [Cm]
end Go.Ago
