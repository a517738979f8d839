
import Derived.Test.YthnfbcloepfooaaGreatDoorAgoI
set_option linter.all false
namespace Go.Ago
open Go
variable {α β:Type}
def Wp (m:M α)(h:af)(Q:α->af->Prop):Prop:=∃x h',m h=some (x,h')/\Q x h'
theorem Wp.mono {m:M α}{h:af}{Q Q':α->af->Prop}(hm:Wp m h Q)(hq:∀x h',Q x h'->Q' x h'):Wp m h Q':=by
 obtain⟨x,h',e,q⟩:=hm;exact⟨x,h',e,hq _ _ q⟩
theorem ag {m:M α}{f:α->M β}{h:af}{Q:β->af->Prop}:Wp (AI m f) h Q↔Wp m h λx h'=>Wp (f x) h' Q:=by
 constructor
 .rintro⟨y,h2,e,q⟩;unfold AI at e;split at e
  .rename_i x h1 hm;exact⟨x,h1,hm,y,h2,e,q⟩
  .cases e
 .rintro⟨x,h1,hm,y,h2,e,q⟩;exact⟨y,h2,by unfold AI;rw[hm];exact e,q⟩
theorem Wp.bind {m:M α}{f:α->M β}{h:af}{Q:β->af->Prop}(hm:Wp m h λx h'=>Wp (f x) h' Q):Wp (AI m f) h Q:=ag.2 hm
theorem Wp.seq {m:M α}{f:α->M β}{h:af}{R:α->af->Prop}{Q:β->af->Prop}(hm:Wp m h R)(hf:∀x h',R x h'->Wp (f x) h' Q):Wp (AI m f) h Q:=ag.2 (hm.mono hf)
theorem ah {x:α}{h:af}{Q:α->af->Prop}:Wp (AS x) h Q↔Q x h:=
 ⟨λ⟨_,_,e,q⟩=>by cases e;exact q,λq=>⟨x,h,rfl,q⟩⟩
theorem XM {p:θ}{h:af}{Q:Addr->af->Prop}:Wp (nn p) h Q↔∃a,p=some a/\Q a h:=by
 constructor
 .rintro⟨x,h',e,q⟩;cases p<;>simp[nn] at e;obtain⟨rfl,rfl⟩:=e;exact⟨_,rfl,q⟩
 .rintro⟨a,rfl,q⟩;exact⟨a,h,rfl,q⟩
theorem aN {a:Addr}{h:af}{Q:Addr->af->Prop}:Wp (nn (some a)) h Q↔Q a h:=by simp[XM]
theorem VO {b:Bool}{h:af}{Q:Unit->af->Prop}:Wp (xZ b) h Q↔b=true/\Q () h:=by
 constructor
 .rintro⟨x,h',e,q⟩;cases b<;>simp[xZ] at e;obtain⟨rfl⟩:=e;exact⟨rfl,q⟩
 .rintro⟨rfl,q⟩;exact⟨(),h,rfl,q⟩
def af.ld (h:af)(l:eh)(b o:Nat):Option l.den:=
 match h.get b with
 |some (.cells c _ _ _)=>(match c[o]? with|some v=>xi l v|none=>none)
 |_=>none
theorem u0 {l:eh}{a:Addr}{h:af}{Q:l.den->af->Prop}:Wp (ar l a) h Q↔∃x,h.ld l a.block a.off=some x/\Q x h:=by
 have key:ar l a h=(match h.ld l a.block a.off with|some x=>some (x,h)|none=>none):=by
  unfold ar af.cell af.ld
  grind
 constructor
 .rintro⟨x,h',e,q⟩
  grind
 .rintro⟨x,hx,q⟩;exact⟨x,h,by rw[key,hx],q⟩
def af.XN (h:af)(k:IntKind)(b o:Nat):Option Int:=h.ld (.int k) b o
def af.ldB (h:af)(b o:Nat):Option Bool:=h.ld .bool b o
def af.ZV (h:af)(b o:Nat):Option ζ:=h.ld .str b o
def af.VP (h:af)(b o:Nat):Option Sl:=h.ld .sl b o
theorem aR {k:IntKind}{a:Addr}{h:af}{Q:Int->af->Prop}:Wp (α:=Int) (ar (.int k) a) h Q↔∃x,h.XN k a.block a.off=some x/\Q x h:=u0
theorem bf {a:Addr}{h:af}{Q:Bool->af->Prop}:Wp (α:=Bool) (ar .bool a) h Q↔∃x,h.ldB a.block a.off=some x/\Q x h:=u0
theorem aT {a:Addr}{h:af}{Q:ζ->af->Prop}:Wp (α:=ζ) (ar .str a) h Q↔∃x,h.ZV a.block a.off=some x/\Q x h:=u0
theorem aW {a:Addr}{h:af}{Q:Sl->af->Prop}:Wp (α:=Sl) (ar .sl a) h Q↔∃x,h.VP a.block a.off=some x/\Q x h:=u0
def af.jV (h:af)(ls:List eh)(b o:Nat):Option (mF ls):=
 match h.get b with
 |some (.cells c _ _ _)=>if o+ls.length<=c.length then vX ls ((c.drop o).take ls.length) else none
 |_=>none
theorem od {ls:List eh}{a:Addr}{h:af}{Q:mF ls->af->Prop}:Wp (bh ls a) h Q↔∃x,h.jV ls a.block a.off=some x/\Q x h:=by
 have key:bh ls a h=(match h.jV ls a.block a.off with|some x=>some (x,h)|none=>none):=by
  unfold bh bj af.jV
  grind
 constructor
 .rintro⟨x,h',e,q⟩
  grind
 .rintro⟨x,hx,q⟩;exact⟨x,h,by rw[key,hx],q⟩
theorem Fl {a:Addr}{vs:δ}{h:af}{Q:Unit->af->Prop} :
  Wp (bE a vs) h Q↔∃c g base e,h.get a.block=some (.cells c g base e)/\g≠0/\a.off+vs.length<=c.length/\vs.all fi=true/\Q () (h.mY a.block (bB c a.off vs) g base e):=by
 constructor
 .rintro⟨x,h',e,q⟩
  grind [bE]
 .rintro⟨c,g,b,el,hg,h1,h2,h3,q⟩;exact⟨(),_,by unfold bE;rw[hg];simp only;rw[BY ⟨h1,h2,h3⟩],q⟩
theorem yn {e:κ}{cs:δ}{h:af}{Q:Nat->af->Prop}:Wp (aJ none e cs) h Q↔cs.all fi=true/\Q h.next (h.new e cs):=by
 constructor
 .rintro⟨x,h',he,q⟩
  grind [aJ]
 .rintro⟨hc,q⟩;exact⟨_,_,by unfold aJ;rw[BY hc],q⟩
theorem P8 {k:Nat}{e:κ}{cs:δ}{h:af}{Q:Nat->af->Prop} :
  Wp (aJ (some k) e cs) h Q↔cs.all fi=true/\h.used k=false/\k<h.next/\h.get k=none/\Q k (h.bt k h.next e cs):=by
 constructor
 .rintro⟨x,h',he,q⟩;unfold aJ at he;split at he
  .rename_i hc;simp only at he;split at he
   .rename_i hd;cases he;exact⟨hc,hd.1,hd.2.1,by simpa using hd.2.2,q⟩
   .cases he
  .cases he
 .rintro⟨hc,h1,h2,h3,q⟩;exact⟨_,_,by unfold aJ;grind,q⟩
theorem JX {n:Nat}{h:af}{Q:Nat->af->Prop}:Wp (dT n) h Q↔Q h.next { h with next:=h.next+n }:=
 ⟨λ⟨_,_,e,q⟩=>by cases e;exact q,λq=>⟨_,_,rfl,q⟩⟩
theorem aE {s:ζ}{i:Int}{h:af}{Q:UInt8->af->Prop}:Wp (nO s i) h Q↔∃b,0<=i/\s[i.toNat]?=some b/\Q b h:=by
 constructor
 .rintro⟨x,h',e,q⟩
  grind [nO]
 .rintro⟨b,hi,hb,q⟩;exact⟨b,h,by unfold nO;rw[BY hi,hb],q⟩
theorem ax {s:ζ}{lo hi:Int}{h:af}{Q:ζ->af->Prop}:Wp (ji s lo hi) h Q↔0<=lo/\lo<=hi/\hi<=s.size/\Q (s.extract lo.toNat hi.toNat) h:=by
 constructor
 .rintro⟨x,h',e,q⟩
  grind [ji,Ju]
 .rintro⟨h1,h2,h3,q⟩;exact⟨_,h,by unfold ji;rw[BY ⟨h1,h2,h3⟩,Ju],q⟩
theorem sS {s:Sl}{i:Int}{z:Nat}{h:af}{Q:Addr->af->Prop}:Wp (ao s i z) h Q↔∃a,s.a=some a/\0<=i/\i<s.len/\Q (a.plus (i.toNat*z)) h:=by
 constructor
 .rintro⟨x,h',e,q⟩
  grind [ao]
 .rintro⟨a,ha,h1,h2,q⟩;exact⟨_,h,by unfold ao;rw[ha];simp only;rw[BY ⟨h1,h2⟩],q⟩
theorem Lu {x y:ζ}{h:af}{Q:ζ->af->Prop}:Wp (yS x y) h Q↔x.size+y.size<=cN/\Q (x++y) h:=by
 constructor
 .rintro⟨z,h',e,q⟩
  grind [yS]
 .rintro⟨hc,q⟩;exact⟨_,h,by unfold yS;rw[BY hc],q⟩
theorem Eo {v:ξ}{h:af}{Q:Bool->af->Prop}:Wp (rM v) h Q↔(v=.nilIface/\Q true h)\/(∃t u,v=.iface t u/\Q false h):=by
 constructor
 .rintro⟨x,h',e,q⟩;unfold rM at e
  grind
 .rintro (⟨rfl,q⟩|⟨t,u,rfl,q⟩)
  .exact⟨true,h,rfl,q⟩
  .exact⟨false,h,rfl,q⟩
structure WF (h:af):Prop where
 get:∀j,h.next<=j->h.get j=none
 used:∀j,h.next<=j->h.used j=false
 bG:∀j c g b e,h.get j=some (.cells c g b e)->g<=h.next
 maps:∀j,h.used j=false->h.fj j=none
theorem cu {j n:Nat}{b:Bool}(h:cond (Nat.beq j n) true b=false):j≠n/\b=false:=by
 rw[aQ] at h;grind
theorem WF.mlt {h:af}(hw:WF h){j:Nat}{x:MA}(hx:h.fj j=some x):j<h.next:=by
 by_cases hj:j<h.next
 .exact hj
 .rw[hw.maps j (hw.used j (by omega))] at hx;cases hx
structure Fr (X:Nat->Prop) (h h':af):Prop where
 wf:WF h'
 next:h.next<=h'.next
 cells:∀j c g b e,h.get j=some (.cells c g b e)->(X g->g=0)->h'.get j=some (.cells c g b e)
 jY:∀g,g<=h.next->(X g->g=0)->h'.jY g=h.jY g
 used:∀j,j<h.next->h'.used j=h.used j
 none:∀j,j<h.next->h.get j=none->h'.get j=none
 maps:∀j x,h.fj j=some x->¬X (j+1)->h'.fj j=some x
theorem Fr.refl {X:Nat->Prop}{h:af}(hw:WF h):Fr X h h:=⟨hw,aai _,λ_ _ _ _ _ e _=>e,λ_ _ _=>rfl,λ_ _=>rfl,λ_ _ e=>e,λ_ _ e _=>e⟩
theorem Fr.trans {X Y:Nat->Prop}{h h1 h2:af}(hw:WF h)(a:Fr X h h1)(b:Fr Y h1 h2)(hy:∀g,Y g->g≠0->X g\/h.next<g):Fr X h h2:=by
 refine⟨b.wf,aaX a.next b.next,?_,?_,?_,?_,λj x hj hx=>?_⟩
 .intro j c g bs e hj hg;refine b.cells j c g bs e (a.cells j c g bs e hj hg) λhm=>?_;by_cases h0:g=0
  .exact h0
  .rcases hy g hm h0 with h3|h3
   .exact hg h3
   .have:=hw.bG j c g bs e hj;omega
 .intro g hg hx;have hx1:Y g->g=0:=λhm=>by
   grind
  rw[b.jY g (aaX hg a.next) hx1,a.jY g hg hx]
 .intro j hj;rw[b.used j (aaC hj a.next),a.used j hj]
 .intro j hj hn;exact b.none j (aaC hj a.next) (a.none j hj hn)
 .have hlt:=hw.mlt hj;refine b.maps j x (a.maps j x hj hx) λhy2=>?_
  grind
theorem Fr.mono {X Y:Nat->Prop}{h h':af}(hw:WF h)(a:Fr X h h')(hs:∀g,X g->g≠0->Y g\/h.next<g):Fr Y h h':=
 Fr.trans hw (Fr.refl hw) a hs
theorem fB (j:Nat):Nat.beq j j=true:=abe j
theorem bZ {i j:Nat}(h:i≠j):Nat.beq i j=false:=by
 grind [absurd,Nat.eq_of_beq_eq_true]
theorem u5 {h:af}{b:Nat}{c:δ}{g base:Nat}{e:κ}:(h.mY b c g base e).get b=some (.cells c g base e):=by
 simp[af.mY,fB]
theorem JY {h:af}{b j:Nat}{c:δ}{g base:Nat}{e:κ}{c':δ}{g' b':Nat}{e':κ}(hj:h.get j=some (.cells c' g' b' e'))(hg:g'≠g)(hb:j≠b) :
  (h.mY b c g base e).get j=some (.cells c' g' b' e'):=by
 simp[af.mY,bZ hb,hj,bZ hg]
theorem tI {h:af}{b j:Nat}{c:δ}{g base:Nat}{e:κ}{k:uK}(hj:(h.mY b c g base e).get j=some k):(j=b/\k=.cells c g base e)\/(j≠b/\h.get j=some k):=by
 unfold af.mY at hj;simp only at hj;by_cases hb:j=b
 .simp_all
 .rw[bZ hb] at hj
  grind
theorem WF.mY {h:af}(hw:WF h){b:Nat}{c c0:δ}{g base base0:Nat}{e e0:κ}(hb:h.get b=some (.cells c0 g base0 e0)):WF (h.mY b c g base e):=by
 have hlt:b<h.next:=by
  by_cases hx:b<h.next
  .exact hx
  .rw[hw.get b (by omega)] at hb;cases hb
 refine⟨λj hj=>?_,hw.used,λj c' g' b' e' hj=>?_,hw.maps⟩
 .have h0:=hw.get j hj;have hj:h.next<=j:=hj
  cases hq:(h.mY b c g base e).get j with
  |none=>rfl
  |some k=>
   rcases tI hq with⟨h1,_⟩|⟨_,h1⟩
   .omega
   .rw[h0] at h1;cases h1
 .rcases tI hj with⟨_,h1⟩|⟨_,h1⟩
  .cases h1;exact hw.bG _ _ _ _ _ hb
  .exact hw.bG _ _ _ _ _ h1
theorem Fr.mY {h:af}(hw:WF h){b:Nat}{c c0:δ}{g base base0:Nat}{e e0:κ}(h0:g≠0)(hb:h.get b=some (.cells c0 g base0 e0)):Fr (·=g) h (h.mY b c g base e):=by
 refine⟨hw.mY hb,aai _,?_,λ_ _ _=>rfl,λ_ _=>rfl,?_,λ_ _ e _=>e⟩
 .intro j c' g' b' e' hj hg;have hg:g'≠g:=λe1=>h0 (by rw[<-e1];exact hg e1);refine JY hj hg λhjb=>?_;subst hjb;rw[hb] at hj;cases hj;exact hg rfl
 .intro j hj hn;cases hq:(h.mY b c g base e).get j with
  |none=>rfl
  |some k=>
   rcases tI hq with⟨h1,_⟩|⟨_,h1⟩
   .subst h1;rw[hn] at hb;cases hb
   .rw[hn] at h1;cases h1
theorem fy {h:af}{nm nx:Nat}{e:κ}{cs:δ}:(h.bt nm nx e cs).get nm=some (.cells cs (nm+1) 0 e):=by
 simp[af.bt,fB]
theorem ei {h:af}{nm nx j:Nat}{e:κ}{cs:δ}(hj:j≠nm):(h.bt nm nx e cs).get j=h.get j:=by
 simp[af.bt,bZ hj]
theorem DR {h:af}{nm nx:Nat}{e:κ}{cs:δ}:(h.bt nm nx e cs).jY (nm+1)=cs.length:=by
 simp[af.bt,fB]
theorem qf {h:af}{nm nx g:Nat}{e:κ}{cs:δ}(hg:g≠nm+1):(h.bt nm nx e cs).jY g=h.jY g:=by
 simp[af.bt,bZ hg]
theorem WF.bt {h:af}(hw:WF h){nm nx:Nat}(h1:nm<nx)(h2:h.next<=nx){e:κ}{cs:δ}:WF (h.bt nm nx e cs):=by
 refine⟨λj hj=>?_,λj hj=>?_,λj c g b e' hj=>?_,λj hj=>hw.maps j (cu hj).2⟩
 .have hj:nx<=j:=hj;rw[ei (by omega)];exact hw.get j (by omega)
 .have hj:nx<=j:=hj;simp[af.bt,bZ (show j≠nm by omega)];exact hw.used j (by omega)
 .by_cases hn:j=nm
  .subst hn;rw[fy] at hj;cases hj;exact h1
  .rw[ei hn] at hj;exact aaX (hw.bG _ _ _ _ _ hj) h2
theorem WF.new {h:af}(hw:WF h){e:κ}{cs:δ}:WF (h.new e cs):=hw.bt (aad _) (aaU _)
theorem Fr.new {h:af}(hw:WF h){e:κ}{cs:δ}:Fr (λ_=>False) h (h.new e cs):=by
 refine⟨hw.new,aaU _,?_,?_,?_,?_,λ_ _ e _=>e⟩
 .intro j c g b e' hj _;rw[af.new,ei]
  .exact hj
  .intro hn;subst hn;rw[hw.get _ (aai _)] at hj;cases hj
 .intro g hg _;exact qf (by omega)
 .intro j hj;simp[af.new,af.bt,bZ (show j≠h.next by omega)]
 grind [af.new,af.new,ei]
theorem WF.dT {h:af}(hw:WF h){n:Nat}:WF { h with next:=h.next+n }:=
 ⟨λj hj=>hw.get j (by simp at hj;omega),λj hj=>hw.used j (by simp at hj;omega),λj c g b e hj=>aaX (hw.bG j c g b e hj) (by simp),λj hj=>hw.maps j hj⟩
theorem Fr.dT {h:af}(hw:WF h){n:Nat}:Fr (λ_=>False) h { h with next:=h.next+n }:=
 ⟨hw.dT,by simp,λ_ _ _ _ _ e _=>e,λ_ _ _=>rfl,λ_ _=>rfl,λ_ _ e=>e,λ_ _ e _=>e⟩
theorem Fr.bt {X:Nat->Prop}{h0 h:af}(hw:WF h0)(a:Fr X h0 h){k:Nat}(hk:h0.next<=k)(hk2:k<h.next){e:κ}{cs:δ}:Fr X h0 (h.bt k h.next e cs):=by
 refine⟨a.wf.bt hk2 (aai _),a.next,?_,?_,?_,?_,λj x hj hx=>a.maps j x hj hx⟩
 .intro j c g b e' hj hg;have:=a.cells j c g b e' hj hg;by_cases hn:j=k
  .subst hn;rw[hw.get j hk] at hj;cases hj
  .rw[ei hn];exact this
 .intro g hg hx;rw[qf (by omega)];exact a.jY g hg hx
 .intro j hj;have:j≠k:=by omega
  simp[af.bt,bZ this];exact a.used j hj
 .intro j hj hn;rw[ei (by omega)];exact a.none j hj hn
def sF (h:af)(s:Sl)(sz:Nat)(e:κ)(cs:δ)(g:Nat):Prop:=
 cs.length=s.len*sz/\((s=⟨none,0,0⟩/\g=0)\/(0<g/\g<=h.next/\(s.cap=0\/s.cap=s.len+1)/\∃b base,s.a=some ⟨b,0,none⟩/\h.get b=some (.cells cs g base e)/\h.jY g=base+cs.length))
theorem sF.nil {h:af}{sz:Nat}{e:κ}:sF h ⟨none,0,0⟩ sz e [] 0:=⟨by simp,.inl ⟨rfl,rfl⟩⟩
theorem sF.fr {h h':af}{s:Sl}{sz:Nat}{e:κ}{cs:δ}{g:Nat}{X:Nat->Prop}(o:sF h s sz e cs g)(f:Fr X h h')(hg:X g->g=0):sF h' s sz e cs g:=by
 obtain⟨h1,h2⟩:=o;refine⟨h1,?_⟩;rcases h2 with h2|⟨h2,h3,h4,b,base,h5,h6,h7⟩
 .exact .inl h2
 .exact .inr ⟨h2,aaX h3 f.next,h4,b,base,h5,f.cells _ _ _ _ _ h6 hg,by rw[f.jY g h3 hg];exact h7⟩
theorem sF.aD {h:af}{s:Sl}{sz:Nat}{e:κ}{cs:δ}{g:Nat}(o:sF h s sz e cs g)(hn:s.len≠0) :
  ∃b base,s.a=some ⟨b,0,none⟩/\h.get b=some (.cells cs g base e)/\g≠0:=by
 obtain⟨_,h2⟩:=o
 grind
theorem sF.le {h:af}{s:Sl}{sz:Nat}{e:κ}{cs:δ}{g:Nat}(o:sF h s sz e cs g):g<=h.next:=by
 obtain⟨_,h2⟩:=o;rcases h2 with⟨_,h2⟩|⟨h2,h3,_⟩<;>omega
theorem sF.read {h:af}{s:Sl}{sz:Nat}{e:κ}{cs:δ}{g:Nat}(o:sF h s sz e cs g):bj h s.a (s.len*sz)=some cs:=by
 obtain⟨h1,h2⟩:=o
 grind [bj]
theorem sF.mY {h:af}{s:Sl}{sz:Nat}{e:κ}{cs cs':δ}{g b base:Nat}(o:sF h s sz e cs g)(hl:cs'.length=cs.length)(hn:s.len≠0)
  (ha:s.a=some ⟨b,0,none⟩) (hb:h.get b=some (.cells cs g base e)):sF (h.mY b cs' g base e) s sz e cs' g:=by
 obtain⟨h1,h2⟩:=o;rcases h2 with⟨rfl,_⟩|⟨h2,h3,h4,b2,base2,h5,h6,h7⟩
 .exact absurd rfl hn
 .rw[ha] at h5;cases h5;rw[hb] at h6;cases h6;exact⟨by omega,.inr ⟨h2,h3,h4,b,base,ha,u5,by rw[hl];exact h7⟩⟩
theorem sF.app {h:af}{s:Sl}{sz:Nat}{e:κ}{cs new:δ}{g n:Nat}{st:Bool}{Q:Sl->af->Prop}(o:sF h s sz e cs g)(hw:WF h)(hn:n≠0)(hl:new.length=n*sz)(hb:s.len+n<=cN)
  (hq:∀s' h' g',s'.len=s.len+n->s'.cap=0->sF h' s' sz e (cs++new) g'->(g'=g/\g≠0\/g'=h.next+1)->Fr (·=g) h h'->Q s' h'):Wp (Ago.app st s sz e n new) h Q:=by
 obtain⟨h1,h2⟩:=o;have hnx:=hw.get h.next (aai _)
 have key:Ago.app st s sz e n new h=kF st s sz e n new h:=by unfold Ago.app;simp[hnx]
 suffices hh:∃s' h' ,kF st s sz e n new h=some (s',h')/\Q s' h' by
  obtain⟨s',h',e1,e2⟩:=hh;exact⟨s',h',by rw[key];exact e1,e2⟩
 have fresh:sF (h.new e (cs++new)) ⟨some ⟨h.next,0,none⟩,s.len+n,0⟩ sz e (cs++new) (h.next+1):=
  ⟨by simp[h1,hl,abf],.inr ⟨by omega,by simp[af.new,af.bt],.inl rfl,h.next,0,rfl,fy,by rw[af.new,DR];simp⟩⟩
 have ffr:Fr (·=g) h (h.new e (cs++new)):=(Fr.new hw).mono hw (λ_ hx _=>hx.elim)
 rcases h2 with⟨rfl,rfl⟩|⟨h2,h3,h4,b,base,h5,h6,h7⟩
 .have hc:cs=[]:=aap (by simpa using h1);subst hc;refine⟨_,_,?_,hq _ _ _ rfl rfl fresh (.inr rfl) ffr⟩;unfold kF
  grind
 .have hcells:bj h (some ⟨b,0,none⟩) (s.len*sz)=some cs:=by simp[bj,h6,<-h1]
  rcases h4 with h4|h4
  ·-- in the same group
   refine⟨⟨some ⟨h.next,0,none⟩,s.len+n,0⟩,{ h with get:=λj=>cond (Nat.beq j h.next) (some (.cells (cs++new) g (base+0) e)) (h.get j),next:=h.next+1,jY:=λg'=>cond (Nat.beq g' g) (base+0+s.len*sz+new.length) (h.jY g'),used:=λj=>cond (Nat.beq j h.next) true (h.used j) },?_,hq _ _ g rfl rfl ?_ (.inl ⟨rfl,by omega⟩) ?_⟩
   .unfold kF
    grind [ly]
   .refine⟨by simp[h1,hl,abf],.inr ⟨h2,by simp;omega,.inl rfl,h.next,base+0,rfl,by simp[fB],?_⟩⟩
    simp[fB,h1];omega
   .refine⟨⟨λj hj=>?_,λj hj=>?_,λj c g' b' e' hj=>?_,λj hj=>hw.maps j (cu hj).2⟩,aaU _,?_,?_,?_,?_,λ_ _ e _=>e⟩
    .simp at hj;simp[bZ (show j≠h.next by omega)];exact hw.get j (by omega)
    .simp at hj;simp[bZ (show j≠h.next by omega)];exact hw.used j (by omega)
    .simp only at hj;by_cases hjn:j=h.next
     .subst hjn;simp[fB] at hj;simp;omega
     .simp[bZ hjn] at hj;have:=hw.bG _ _ _ _ _ hj;simp;omega
    .intro j c g' b' e' hj _;have:j≠h.next:=λhjn=>by subst hjn;rw[hnx] at hj;cases hj
     simp[bZ this];exact hj
    .grind [bZ]
    .intro j hj;simp[bZ (show j≠h.next by omega)]
    .intro j hj hx;simp[bZ (show j≠h.next by omega)];exact hx
  .refine⟨_,_,?_,hq _ _ _ rfl rfl fresh (.inr rfl) ffr⟩;unfold kF
   grind
theorem fP {enc:α->δ}{sz:Nat}(he:∀x,(enc x).length=sz):∀(L:List α),(L.flatMap enc).length=L.length*sz
 |[]=>by simp
 |x::L=>by rw[abh,aaa,he,fP he L,aae,abf,acL,Nat.add_comm]
theorem Aa {enc:α->δ}{sz:Nat}(he:∀x,(enc x).length=sz):∀(L:List α) (i:Nat),(L.flatMap enc).drop (i*sz)=(L.drop i).flatMap enc
 |L,0=>by simp
 |[],i+1=>by simp
 |x::L,i+1=>by
  rw[abh,List.drop_succ_cons,<-Aa he L i,abf,acL,Nat.add_comm,<-aa3]
  congr 1
  rw[<-he x,List.drop_left]
theorem P9 {enc:α->δ}{sz:Nat}(he:∀x,(enc x).length=sz){L:List α}{i:Nat}{x:α}(hi:L[i]?=some x){o:Nat}(ho:o<sz):(L.flatMap enc)[i*sz+o]?=(enc x)[o]?:=by
 have h1:(L.flatMap enc)[i*sz+o]?=((L.flatMap enc).drop (i*sz))[o]?:=by rw[aaJ]
 grind [Aa,List.getElem?_eq_some_iff,List.drop_eq_getElem_cons,List.getElem?_append_left]
theorem M5 {enc:α->δ}{sz:Nat}(he:∀x,(enc x).length=sz){L:List α}{i:Nat}{x:α}(hi:L[i]?=some x):((L.flatMap enc).drop (i*sz)).take sz=enc x:=by
 grind [Aa,List.getElem?_eq_some_iff,List.drop_eq_getElem_cons,List.take_left]
theorem sT {enc:α->δ}{sz:Nat}(he:∀x,(enc x).length=sz){L:List α}{i:Nat}{x x':α}(hi:L[i]?=some x){o:Nat}{vs:δ}(ho:o+vs.length<=sz)(hx:enc x'=bB (enc x) o vs) :
  bB (L.flatMap enc) (i*sz+o) vs=(L.set i x').flatMap enc:=by
 have hlt:=(List.getElem?_eq_some_iff.1 hi).1;have hL:L=L.take i++x::L.drop (i+1):=by
  grind [List.drop_eq_getElem_cons,List.getElem?_eq_some_iff,List.take_append_drop]
 have hs:L.set i x'=L.take i++x'::L.drop (i+1):=by rw[abH,BY hlt]
 have hl:((L.take i).flatMap enc).length=i*sz:=by grind [fP,List.length_take,Nat.min_eq_left,Nat.le_of_lt]
 rw[hs,ack,abh,hx]
 conv=>lhs;rw[hL]
 rw[ack,abh];unfold bB;rw[<-hl,List.take_length_add_append,abW,List.drop_length_add_append,List.take_append_of_le_length (by rw[he];omega),List.drop_append_of_le_length (by rw[he];omega)];simp
structure LB (h:af) (b:Nat) (cs:δ) (e:κ):Prop where
 get:h.get b=some (.cells cs (b+1) 0 e)
theorem LB.new {h:af}{e:κ}{cs:δ}:LB (h.new e cs) h.next cs e:=⟨fy⟩
theorem LB.fr {h h':af}{b:Nat}{cs:δ}{e:κ}{X:Nat->Prop}(l:LB h b cs e)(f:Fr X h h')(hx:¬X (b+1)):LB h' b cs e:=⟨f.cells _ _ _ _ _ l.get λhm=>absurd hm hx⟩
theorem LB.lt {h:af}{b:Nat}{cs:δ}{e:κ}(l:LB h b cs e)(hw:WF h):b<h.next:=by
 have:=hw.bG _ _ _ _ _ l.get;omega
theorem LB.st {h:af}{b o:Nat}{cs vs:δ}{e:κ}(l:LB h b cs e)(hw:WF h)(ho:o+vs.length<=cs.length)(hv:vs.all fi=true){Q:Unit->af->Prop}
  (hq:∀h',LB h' b (bB cs o vs) e->Fr (·=b+1) h h'->Q () h'):Wp (bE ⟨b,o,none⟩ vs) h Q:=by
 rw[Fl];exact⟨cs,b+1,0,e,l.get,by omega,ho,hv,hq _ ⟨u5⟩ (Fr.mY hw (by omega) l.get)⟩
theorem LB.ld {h:af}{b o:Nat}{cs:δ}{e:κ}(l:LB h b cs e){lf:eh}{v:ξ}{x:lf.den}(hv:cs[o]?=some v)(hx:xi lf v=some x):h.ld lf b o=some x:=by
 unfold af.ld;rw[l.get];simp only[hv];exact hx
theorem LB.jV {h:af}{b o:Nat}{cs:δ}{e:κ}(l:LB h b cs e){ls:List eh}{x:mF ls}(hl:o+ls.length<=cs.length)(hx:vX ls ((cs.drop o).take ls.length)=some x):h.jV ls b o=some x:=by
 unfold af.jV;rw[l.get];simp only[hl,aav];exact hx
theorem Fr.fresh {X Y:Nat->Prop}{h0 h h':af}(hw:WF h0)(a:Fr X h0 h)(b:Fr Y h h')(hg:∀g,Y g->X g\/h0.next<g):Fr X h0 h':=a.trans hw b λg hy _=>hg g hy
theorem Qa {e:κ}{z:δ}{l c:Int}{h:af}{Q:Sl->af->Prop}(h1:0<=l)(h2:l<=c)(h3:c<=cN)(q:Q ⟨some ⟨h.next,0,none⟩,l.toNat,c.toNat+1⟩ (h.new e (List.replicate c.toNat z).flatten))(hz:z.all fi=true:=by rfl):Wp (pT none e z l c) h Q:=by
 have hs:(List.replicate c.toNat z).flatten.all fi=true:=by
  grind
 exact⟨_,_,by unfold pT aJ;rw[BY ⟨h1,h2,h3⟩,BY hs],q⟩
theorem Qb {k:Nat}{e:κ}{z:δ}{l c:Int}{h:af}{Q:Sl->af->Prop}(h1:0<=l)(h2:l<=c)(h3:c<=cN)(k1:h.used k=false)(k2:k<h.next)(k3:h.get k=none)
  (q:Q ⟨some ⟨k,0,none⟩,l.toNat,c.toNat+1⟩ (h.bt k h.next e (List.replicate c.toNat z).flatten)) (hz:z.all fi=true:=by rfl):Wp (pT (some k) e z l c) h Q:=by
 have hs:(List.replicate c.toNat z).flatten.all fi=true:=by
  grind
 exact⟨_,_,by unfold pT aJ;grind,q⟩
theorem rH {s:Sl}{lo hi:Int}{e:κ}{z:Nat}{h:af}{Q:Sl->af->Prop}(h1:0<=lo)(h2:lo<=hi)(h3:hi<=s.len)(h4:gx h s e=true)
  (q:Q ⟨s.a.map (·.plus (lo.toNat*z)),hi.toNat-lo.toNat,s.cap-(if s.cap=0 then 0 else lo.toNat)⟩ h):Wp (gf s lo hi e z) h Q:=
 ⟨_,_,by unfold gf;rw[BY ⟨h1,h2,h3,h4⟩],q⟩
theorem JZ {m:M α}{as:List θ}{h:af}{Q:α->af->Prop}(hm:Wp m h λx h'=>(∀a,some a∈as->h'.get a.block=h.get a.block)/\Q x h'):Wp (kO as m) h Q:=by
 obtain⟨x,h',e,hs,q⟩:=hm;refine⟨x,h',?_,q⟩;have:sameAt h h' as=true:=by
  clear e q
  induction as with
  |nil=>rfl
  |cons a r ih=>
   have ih:=ih λa ha=>hs a (aan _ ha);cases a with
   |none=>exact ih
   |some b=>
    have hb:=hs b (by simp);unfold sameAt;cases Uh h h' b with
    |isTrue _=>exact ih
    |isFalse hn=>exact absurd (eL.of hb) hn
 unfold kO;rw[e];simp only[this]
theorem lG {cs:List Ty}{x:ξ}{c:aO cs}{h:af}{Q:aO cs->af->Prop}(hx:sE cs (B5 x)=some c)(q:Q c h):Wp (nr cs x) h Q:=
 ⟨c,h,by unfold nr;rw[hx],q⟩
theorem VQ {k k':IntKind}(h:KX k k'=true):k=k':=by cases k<;>cases k'<;>simp_all[KX,KW]
theorem yo {a b:ζ}(h:pj a b=true):a=b:=by
 rw[mZ] at h;have h:=beq_iff_eq.1 h;rw[ByteArray.toList_eq,ByteArray.toList_eq] at h;cases a;cases b;simp at h;rw[h]
theorem Lw {v u:ξ}(h:zO v u=true):v=u:=by
 cases v<;>cases u<;>simp only[zO,aaf,IT] at h<;>try cases h
 .rename_i a b;simp at h;rw[h]
 .rename_i h1 h2;rw[VQ h1,h2]
 .rw[yo h]
theorem Lx:∀{xs ys:δ},xj xs ys=true->xs=ys
 |[],[],_=>rfl
 |[],_::_,h=>by cases h
 |_::_,[],h=>by cases h
 |x::xs,y::ys,h=>by
  simp only[xj,aaf] at h;rw[Lw h.1,Lx h.2]
theorem J2 {x y:ξ}(h:vF x y=true):x=y:=by
 unfold vF at h
 grind [Array.toList_inj,Lx,Lw]
theorem u6 {k v k':ξ}{c:Nat}:∀{es:List lJ},sM k' (nq k v c es)=if vF k' k then some v else sM k' es
 |[]=>by simp only[nq,sM,eK];cases vF k' k<;>rfl
 |e::r=>by
  have ih:=u6 (k:=k) (v:=v) (k':=k') (c:=c) (es:=r);simp only[nq];cases hq:vF k e.key
  .simp only[sM,eK] at ih⊢;cases h2:vF k' e.key
   .simp only;exact ih
   grind [J2,vF]
  grind [J2,sM,eK,vF]
theorem zi {k v:ξ}{c:Nat}:∀{es:List lJ},(nq k v c es).length=if (eK k es).isSome then es.length else es.length+1
 |[]=>rfl
 |e::r=>by
  have ih:=zi (k:=k) (v:=v) (c:=c) (es:=r);by_cases hq:vF k e.key=true
  .simp[nq,eK,hq]
  .have hq:vF k e.key=false:=by simpa using hq
   grind [nq,eK,List.length_cons]
def oe (c:Nat):List lJ->Prop
 |[]=>True
 |e::r=>e.born<c/\(∀x∈r,x.born≠e.born)/\oe c r
theorem oe.mono {c c':Nat}(hc:c<=c'):∀{es:List lJ},oe c es->oe c' es
 |[],_=>trivial
 |e::r,h=>⟨aaC h.1 hc,h.2.1,oe.mono hc h.2.2⟩
theorem oe.lt {c:Nat}:∀{es:List lJ},oe c es->∀e∈es,e.born<c
 |[],_=>by simp
 |e::r,h=>λx hx=>by
  rcases List.mem_cons.1 hx with rfl|hx
  .exact h.1
  .exact oe.lt h.2.2 x hx
theorem Ep {k v:ξ}{c:Nat}:∀{es:List lJ},∀x∈nq k v c es,(∃y∈es,x.born=y.born)\/x.born=c
 |[]=>by simp[nq]
 |e::r=>by
  intro x hx;simp only[nq] at hx;split at hx
  .grind
  .rcases List.mem_cons.1 hx with rfl|hx
   .exact .inl ⟨x,by simp,rfl⟩
   .rcases Ep x hx with⟨y,h1,h2⟩|h1
    .exact .inl ⟨y,aan _ h1,h2⟩
    .exact .inr h1
theorem oe.put {k v:ξ}{c c':Nat}(hc:c<=c'):∀{es:List lJ},oe c es->(eK k es=none->c<c')->oe c' (nq k v c es)
 |[],_,h=>⟨h rfl,by simp,trivial⟩
 |e::r,hs,h=>by
  simp only[nq];simp only[eK] at h;cases hq:vF k e.key
  .rw[hq] at h;refine⟨aaC hs.1 hc,λx hx=>?_,oe.put hc hs.2.2 h⟩;rcases Ep x hx with⟨y,h1,h2⟩|h1
   .rw[h2];exact hs.2.1 y h1
   .rw[h1];have:=hs.1;omega
  .exact⟨aaC hs.1 hc,hs.2.1,hs.2.2.mono hc⟩
structure MB (h:af) (m:Nat) (kt:κ) (f:ξ->Option ξ) (n:Nat):Prop where
 ex:∃c es,h.fj m=some ⟨kt,c,es⟩/\oe c es/\(∀k,sM k es=f k)/\es.length=n
theorem MB.lt {h:af}{m:Nat}{kt:κ}{f:ξ->Option ξ}{n:Nat}(l:MB h m kt f n)(hw:WF h):m<h.next:=by
 obtain⟨c,es,h1,_⟩:=l.ex;exact hw.mlt h1
theorem MB.fr {h h':af}{m:Nat}{kt:κ}{f:ξ->Option ξ}{n:Nat}{X:Nat->Prop}(l:MB h m kt f n)(fr:Fr X h h')(hx:¬X (m+1)):MB h' m kt f n:=by
 obtain⟨c,es,h1,h2⟩:=l.ex;exact⟨c,es,fr.maps _ _ h1 hx,h2⟩
theorem CH {h:af}{m:Nat}{kt:κ}{c:Nat}{es:List lJ}(hm:h.fj m=some ⟨kt,c,es⟩):h.p8 kt m=some (c,es):=by
 unfold af.p8;rw[hm];simp[fB]
theorem Io {kt:κ}{h:af}(hw:WF h){Q:Nat->af->Prop}(hq:∀h',MB h' h.next kt (λ_=>none) 0->Fr (λ_=>False) h h'->Q h.next h'):Wp (vx kt) h Q:=by
 refine⟨_,_,rfl,hq _ ⟨0,[],by simp[af.iP,fB],trivial,λ_=>rfl,rfl⟩ ⟨⟨λj hj=>?_,λj hj=>?_,λj c g b e hj=>?_,λj hj=>?_⟩,aaU _,λ_ _ _ _ _ e _=>e,λ_ _ _=>rfl,λj hj=>?_,λ_ _ e=>e,λj x hj _=>?_⟩⟩
 .exact hw.get j (by simp at hj;omega)
 .simp at hj;simp[bZ (show j≠h.next by omega)];exact hw.used j (by omega)
 .exact aaX (hw.bG j c g b e hj) (by simp)
 .simp[af.iP,bZ (cu hj).1];exact hw.maps j (cu hj).2
 .simp[bZ (show j≠h.next by omega)]
 .have:=hw.mlt hj;simp[af.iP,bZ (show j≠h.next by omega)];exact hj
theorem Fr.iP {h:af}(hw:WF h){m:Nat}{x y:MA}(hm:h.fj m=some y):Fr (·=m+1) h (h.iP m x):=by
 refine⟨⟨hw.get,hw.used,hw.bG,λj hj=>?_⟩,aai _,λ_ _ _ _ _ e _=>e,λ_ _ _=>rfl,λ_ _=>rfl,λ_ _ e=>e,λj x hj hx=>?_⟩
 .have hj:h.used j=false:=hj;have hn:=hw.maps j hj;simp[af.iP,bZ (show j≠m from λe=>by subst e;rw[hm] at hn;cases hn)];exact hn
 grind [af.iP,bZ]
theorem MB.Y0 {h:af}{m:Nat}{kt:κ}{f:ξ->Option ξ}{n:Nat}(l:MB h m kt f n){T:Ty}{z:T.den}{k:ξ}{Q:Bool×T.den->af->Prop}
  (h1:∀v,f k=some v->∃x,DC T v=some x/\Q (true,x) h) (h2:f k=none->Q (false,z) h):Wp (rN kt T z (some m) k) h Q:=by
 obtain⟨c,es,e1,_,e2,_⟩:=l.ex;unfold Wp rN;simp only[CH e1,e2]
 grind
def zj (f:ξ->Option ξ)(k v:ξ):ξ->Option ξ:=λk'=>if vF k' k then some v else f k'
theorem MB.Y1 {h:af}{m:Nat}{kt:κ}{f:ξ->Option ξ}{n:Nat}(l:MB h m kt f n)(hw:WF h){k v:ξ}{Q:Unit->af->Prop}
  (hq:∀h',MB h' m kt (zj f k v) (if (f k).isSome then n else n+1)->Fr (·=m+1) h h'->Q () h'):Wp (B4 kt (some m) k v) h Q:=by
 have hlt:=l.lt hw;obtain⟨c,es,e1,e3,e2,e4⟩:=l.ex;unfold Wp B4;simp only[CH e1];have hk:(eK k es).isSome=(f k).isSome:=by rw[<-e2 k];unfold sM;cases eK k es<;>rfl
 refine⟨(),h.iP m ⟨kt,(match eK k es with|some _=>c|none=>c+1),nq k v c es⟩,rfl,hq _ ⟨_,_,by simp[af.iP,fB];exact⟨rfl,rfl⟩,?_,λk'=>?_,?_⟩ (Fr.iP hw e1)⟩
 .cases hm:eK k es with
  |none=>exact e3.put (aaU _) λ_=>aad _
  |some x=>exact e3.put (aai _) λhn=>by rw[hm] at hn;cases hn
 .rw[u6,e2];rfl
 .rw[zi,hk,e4]
theorem MB.len {h:af}{m:Nat}{kt:κ}{f:ξ->Option ξ}{n:Nat}(l:MB h m kt f n){Q:Nat->af->Prop}(q:Q n h):Wp (AN (some m)) h Q:=by
 obtain⟨c,es,e1,_,_,e4⟩:=l.ex;exact⟨n,h,by unfold AN;simp only[e1,e4],q⟩
def zk (h:af)(m:Nat)(k:ξ)(st:Nat):Prop:=∃x,h.fj m=some x/\∃e,eK k x.es=some e/\e.born=st
theorem zk.fr {h h':af}{m:Nat}{k:ξ}{st:Nat}{X:Nat->Prop}(l:zk h m k st)(fr:Fr X h h')(hx:¬X (m+1)):zk h' m k st:=by
 obtain⟨x,h1,h2⟩:=l;exact⟨x,fr.maps _ _ h1 hx,h2⟩
theorem CI {k v:ξ}{c:Nat}(hk:vF k k=true):∀{es:List lJ},eK k es=none->eK k (nq k v c es)=some ⟨k,v,c⟩
 |[],_=>by simp[nq,eK,hk]
 |e::r,h=>by
  simp only[eK] at h;simp only[nq];cases hq:vF k e.key
  .rw[hq] at h;simp only[eK,hq];exact CI hk h
  .rw[hq] at h;cases h
theorem MB.entry {h:af}{m:Nat}{kt:κ}{f:ξ->Option ξ}{n:Nat}(l:MB h m kt f n)(hw:WF h){T:Ty}{z:T.den}{k:ξ}(hk:vF k k=true){Q:T.den×Nat->af->Prop}
  (h1:∀v,f k=some v->∃x,DC T v=some x/\∀st,zk h m k st->Q (x,st) h)
  (h2:f k=none->∀h' st,MB h' m kt (zj f k (zL T z)) (n+1)->zk h' m k st->Fr (·=m+1) h h'->Q (z,st) h'):Wp (lT kt T z (some m) k) h Q:=by
 have hlt:=l.lt hw;obtain⟨c,es,e1,e3,e2,e4⟩:=l.ex;unfold Wp lT;simp only[CH e1];cases hm:eK k es with
 |none=>
  have hf:f k=none:=by rw[<-e2];unfold sM;rw[hm];rfl
  refine⟨_,_,rfl,h2 hf _ _ ⟨c+1,nq k (zL T z) c es,by simp[af.iP,fB],e3.put (aaU _) λ_=>aad _,λk'=>?_,?_⟩ ⟨⟨kt,c+1,nq k (zL T z) c es⟩,by simp[af.iP,fB],⟨k,zL T z,c⟩,CI hk hm,rfl⟩ (Fr.iP hw e1)⟩
  .rw[u6,e2];rfl
  .rw[zi,hm,e4];rfl
 |some e=>
  have hf:f k=some e.val:=by rw[<-e2];unfold sM;rw[hm];rfl
  obtain⟨x,hx,q⟩:=h1 _ hf;simp only[hx];exact⟨_,_,rfl,q _ ⟨_,e1,e,hm,rfl⟩⟩
theorem CJ {k v:ξ}{c:Nat}:∀{es:List lJ} {e:lJ},oe c es->eK k es=some e->yT e.born v es=some (nq k v c es)
 |[],e,_,h=>by cases h
 |x::r,e,hs,h=>by
  simp only[eK] at h;simp only[yT,nq];cases hq:vF k x.key
  .rw[hq] at h;have hmem:∀{es:List lJ},eK k es=some e->e∈es:=by
    intro es
    induction es with
    |nil=>intro h;cases h
    |cons y r ih=>
     grind [eK,List.mem_cons_of_mem]
   have hne:=hs.2.1 e (hmem h);rw[bZ (λe2=>hne e2.symm)];simp only;rw[CJ hs.2.2 h]
  grind [fB,J2]
theorem MB.store {h:af}{m:Nat}{kt:κ}{f:ξ->Option ξ}{n:Nat}(l:MB h m kt f n)(hw:WF h){k v:ξ}{st:Nat}(hs:zk h m k st){Q:Unit->af->Prop}
  (hq:∀h',MB h' m kt (zj f k v) n->Fr (·=m+1) h h'->Q () h'):Wp (nW (some m) (st:Int) v) h Q:=by
 have hlt:=l.lt hw;obtain⟨c,es,e1,e3,e2,e4⟩:=l.ex;obtain⟨x,h1,e,h2,rfl⟩:=hs;rw[e1] at h1;cases h1;have hp:=CJ (v:=v) e3 h2;have hd:decide (0<=((e.born:Nat):Int))=true:=by simp
 unfold Wp nW;simp only[e1,hd,aac,hp];refine⟨(),h.iP m ⟨kt,c,nq k v c es⟩,rfl,hq _ ⟨c,nq k v c es,by simp[af.iP,fB],e3.put (aai _) (λhn=>by simp only at h2;rw[h2] at hn;cases hn),λk'=>?_,?_⟩ (Fr.iP hw e1)⟩
 .rw[u6,e2];rfl
 .simp only at h2;rw[zi,h2,e4];rfl
end Go.Ago
