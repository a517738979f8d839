
import Derived.Test.YtmfkngdglbcngaaGreatDoorAgoI
set_option linter.all false
namespace Go.Ago
open Go
variable {α β:Type}
def Wp (m:M α)(h:af)(Q:α->af->Prop):Prop:=∃x h',m h=some (x,h')/\Q x h'
theorem Wp.mono {m:M α}{h:af}{Q Q':α->af->Prop}(hm:Wp m h Q)(hq:∀x h',Q x h'->Q' x h'):Wp m h Q':=by
 obtain⟨x,h',e,q⟩:=hm;exact⟨x,h',e,hq _ _ q⟩
theorem ah {m:M α}{f:α->M β}{h:af}{Q:β->af->Prop}:Wp (sh m f) h Q↔Wp m h λx h'=>Wp (f x) h' Q:=by
 constructor
 .rintro⟨y,h2,e,q⟩;unfold sh at e;split at e
  .rename_i x h1 hm;exact⟨x,h1,hm,y,h2,e,q⟩
  .cases e
 .rintro⟨x,h1,hm,y,h2,e,q⟩;exact⟨y,h2,by unfold sh;rw[hm];exact e,q⟩
theorem Wp.bind {m:M α}{f:α->M β}{h:af}{Q:β->af->Prop}(hm:Wp m h λx h'=>Wp (f x) h' Q):Wp (sh m f) h Q:=ah.2 hm
theorem Wp.seq {m:M α}{f:α->M β}{h:af}{R:α->af->Prop}{Q:β->af->Prop}(hm:Wp m h R)(hf:∀x h',R x h'->Wp (f x) h' Q):Wp (sh m f) h Q:=ah.2 (hm.mono hf)
theorem ag {x:α}{h:af}{Q:α->af->Prop}:Wp (AI x) h Q↔Q x h:=
 ⟨λ⟨_,_,e,q⟩=>by cases e;exact q,λq=>⟨x,h,rfl,q⟩⟩
theorem afa {p:θ}{h:af}{Q:Addr->af->Prop}:Wp (nn p) h Q↔∃a,p=some a/\Q a h:=by
 constructor
 .rintro⟨x,h',e,q⟩;cases p<;>simp[nn] at e;obtain⟨rfl,rfl⟩:=e;exact⟨_,rfl,q⟩
 .rintro⟨a,rfl,q⟩;exact⟨a,h,rfl,q⟩
theorem pJ {a:Addr}{h:af}{Q:Addr->af->Prop}:Wp (nn (some a)) h Q↔Q a h:=by simp[afa]
theorem IE {b:Bool}{h:af}{Q:Unit->af->Prop}:Wp (oq b) h Q↔b=true/\Q () h:=by
 constructor
 .rintro⟨x,h',e,q⟩;cases b<;>simp[oq] at e;obtain⟨rfl⟩:=e;exact⟨rfl,q⟩
 .rintro⟨rfl,q⟩;exact⟨(),h,rfl,q⟩
def af.ld (h:af)(l:eN)(b o:Nat):Option l.den:=
 match h.get b with
 |some (.cells c _ _ _)=>(match c[o]? with|some v=>Al l v|none=>none)
 |_=>none
theorem vD {l:eN}{a:Addr}{h:af}{Q:l.den->af->Prop}:Wp (ar l a) h Q↔∃x,h.ld l a.block a.off=some x/\Q x h:=by
 have key:ar l a h=(match h.ld l a.block a.off with|some x=>some (x,h)|none=>none):=by
  unfold ar af.cell af.ld
  grind
 constructor
 .rintro⟨x,h',e,q⟩
  grind
 .rintro⟨x,hx,q⟩;exact⟨x,h,by rw[key,hx],q⟩
def af.ldI (h:af)(k:IntKind)(b o:Nat):Option Int:=h.ld (.int k) b o
def af.ldB (h:af)(b o:Nat):Option Bool:=h.ld .bool b o
def af.GL (h:af)(b o:Nat):Option ζ:=h.ld .str b o
def af.ldV (h:af)(b o:Nat):Option Sl:=h.ld .sl b o
def af.Du (h:af)(b o:Nat):Option θ:=h.ld .ptr b o
theorem qg {k:IntKind}{a:Addr}{h:af}{Q:Int->af->Prop}:Wp (α:=Int) (ar (.int k) a) h Q↔∃x,h.ldI k a.block a.off=some x/\Q x h:=vD
theorem qh {a:Addr}{h:af}{Q:Bool->af->Prop}:Wp (α:=Bool) (ar .bool a) h Q↔∃x,h.ldB a.block a.off=some x/\Q x h:=vD
theorem qi {a:Addr}{h:af}{Q:ζ->af->Prop}:Wp (α:=ζ) (ar .str a) h Q↔∃x,h.GL a.block a.off=some x/\Q x h:=vD
theorem qj {a:Addr}{h:af}{Q:Sl->af->Prop}:Wp (α:=Sl) (ar .sl a) h Q↔∃x,h.ldV a.block a.off=some x/\Q x h:=vD
def af.fC (h:af)(ls:List eN)(b o:Nat):Option (bS ls):=
 match h.get b with
 |some (.cells c _ _ _)=>if o+ls.length<=c.length then zG ls ((c.drop o).take ls.length) else none
 |_=>none
theorem Bs {ls:List eN}{a:Addr}{h:af}{Q:bS ls->af->Prop}:Wp (aN ls a) h Q↔∃x,h.fC ls a.block a.off=some x/\Q x h:=by
 have key:aN ls a h=(match h.fC ls a.block a.off with|some x=>some (x,h)|none=>none):=by
  unfold aN aU af.fC
  grind
 constructor
 .rintro⟨x,h',e,q⟩
  grind
 .rintro⟨x,hx,q⟩;exact⟨x,h,by rw[key,hx],q⟩
theorem IF {a:Addr}{vs:δ}{h:af}{Q:Unit->af->Prop} :
  Wp (bF a vs) h Q↔∃c g base e,h.get a.block=some (.cells c g base e)/\g≠0/\a.off+vs.length<=c.length/\vs.all eZ=true/\Q () (h.sr a.block (bf c a.off vs) g base e):=by
 constructor
 .rintro⟨x,h',e,q⟩
  grind [bF]
 .rintro⟨c,g,b,el,hg,h1,h2,h3,q⟩;exact⟨(),_,by unfold bF;rw[hg];simp only;rw[AT ⟨h1,h2,h3⟩],q⟩
theorem Av {e:κ}{cs:δ}{h:af}{Q:Nat->af->Prop}:Wp (aM none e cs) h Q↔cs.all eZ=true/\Q h.next (h.new e cs):=by
 constructor
 .rintro⟨x,h',he,q⟩
  grind [aM]
 .rintro⟨hc,q⟩;exact⟨_,_,by unfold aM;rw[AT hc],q⟩
theorem UL {k:Nat}{e:κ}{cs:δ}{h:af}{Q:Nat->af->Prop} :
  Wp (aM (some k) e cs) h Q↔cs.all eZ=true/\h.used k=false/\k<h.next/\h.get k=none/\Q k (h.dA k h.next e cs):=by
 constructor
 .rintro⟨x,h',he,q⟩;unfold aM at he;split at he
  .rename_i hc;simp only at he;split at he
   .rename_i hd;cases he;exact⟨hc,hd.1,hd.2.1,by simpa using hd.2.2,q⟩
   .cases he
  .cases he
 .rintro⟨hc,h1,h2,h3,q⟩;exact⟨_,_,by unfold aM;grind,q⟩
theorem NO {n:Nat}{h:af}{Q:Nat->af->Prop}:Wp (eC n) h Q↔Q h.next { h with next:=h.next+n }:=
 ⟨λ⟨_,_,e,q⟩=>by cases e;exact q,λq=>⟨_,_,rfl,q⟩⟩
theorem Yz {l:eN}{n:Nat}{cs:δ}{i:Int}{h:af}{v:ξ}{x:l.den}{Q:l.den->af->Prop}(h1:0<=i)(h2:i<(n:Int))(hv:cs[i.toNat]?=some v)(hx:Al l v=some x)(q:Q x h):Wp (Ia l n cs i) h Q:=
 ⟨x,h,by unfold Ia;rw[AT ⟨h1,h2⟩,hv];simp only[hx],q⟩
theorem fE {s:ζ}{i:Int}{h:af}{Q:UInt8->af->Prop}:Wp (jx s i) h Q↔∃b,0<=i/\s[i.toNat]?=some b/\Q b h:=by
 constructor
 .rintro⟨x,h',e,q⟩
  grind [jx]
 .rintro⟨b,hi,hb,q⟩;exact⟨b,h,by unfold jx;rw[AT hi,hb],q⟩
theorem gf {s:ζ}{lo hi:Int}{h:af}{Q:ζ->af->Prop}:Wp (je s lo hi) h Q↔0<=lo/\lo<=hi/\hi<=s.size/\Q (s.extract lo.toNat hi.toNat) h:=by
 constructor
 .rintro⟨x,h',e,q⟩
  grind [je]
 .rintro⟨h1,h2,h3,q⟩;exact⟨_,h,by unfold je;rw[AT ⟨h1,h2,h3⟩],q⟩
theorem zm {s:Sl}{i:Int}{z:Nat}{h:af}{Q:Addr->af->Prop}:Wp (aw s i z) h Q↔∃a,s.a=some a/\0<=i/\i<s.len/\Q (a.plus (i.toNat*z)) h:=by
 constructor
 .rintro⟨x,h',e,q⟩
  grind [aw]
 .rintro⟨a,ha,h1,h2,q⟩;exact⟨_,h,by unfold aw;rw[ha];simp only;rw[AT ⟨h1,h2⟩],q⟩
theorem IG {x y:ζ}{h:af}{Q:ζ->af->Prop}:Wp (kA x y) h Q↔x.size+y.size<=cF/\Q (x++y) h:=by
 constructor
 .rintro⟨z,h',e,q⟩
  grind [kA]
 .rintro⟨hc,q⟩;exact⟨_,h,by unfold kA;rw[AT hc],q⟩
theorem UM {s:Sl}{z:Nat}{h:af}{Q:δ->af->Prop}:Wp (GP s z) h Q↔∃cs,aU h s.a (s.len*z)=some cs/\Q cs h:=by
 constructor
 .rintro⟨x,h',e,q⟩
  grind [GP]
 .rintro⟨cs,hc,q⟩;exact⟨cs,h,by unfold GP;rw[hc],q⟩
theorem HN {v:ξ}{h:af}{Q:Bool->af->Prop}:Wp (kM v) h Q↔(v=.nilIface/\Q true h)\/(∃t u,v=.iface t u/\Q false h):=by
 constructor
 .rintro⟨x,h',e,q⟩;unfold kM at e
  grind
 .rintro (⟨rfl,q⟩|⟨t,u,rfl,q⟩)
  .exact⟨true,h,rfl,q⟩
  .exact⟨false,h,rfl,q⟩
structure WF (h:af):Prop where
 get:∀j,h.next<=j->h.get j=none
 used:∀j,h.next<=j->h.used j=false
 dY:∀j c g b e,h.get j=some (.cells c g b e)->g<=h.next
 maps:∀j,h.next<=j->h.jy j=none
theorem WF.mlt {h:af}(hw:WF h){j:Nat}{x:X3}(hx:h.jy j=some x):j<h.next:=by
 by_cases hj:j<h.next
 .exact hj
 .rw[hw.maps j (by omega)] at hx;cases hx
structure Fr (X:Nat->Prop) (h h':af):Prop where
 wf:WF h'
 next:h.next<=h'.next
 cells:∀j c g b e,h.get j=some (.cells c g b e)->(X g->g=0)->h'.get j=some (.cells c g b e)
 oV:∀g,g<=h.next->(X g->g=0)->h'.oV g=h.oV g
 used:∀j,j<h.next->h'.used j=h.used j
 none:∀j,j<h.next->h.get j=none->h'.get j=none
 maps:∀j x,h.jy j=some x->¬X (j+1)->h'.jy j=some x
theorem Fr.refl {X:Nat->Prop}{h:af}(hw:WF h):Fr X h h:=⟨hw,aao _,λ_ _ _ _ _ e _=>e,λ_ _ _=>rfl,λ_ _=>rfl,λ_ _ e=>e,λ_ _ e _=>e⟩
theorem Fr.trans {X Y:Nat->Prop}{h h1 h2:af}(hw:WF h)(a:Fr X h h1)(b:Fr Y h1 h2)(hy:∀g,Y g->g≠0->X g\/h.next<g):Fr X h h2:=by
 refine⟨b.wf,abX a.next b.next,?_,?_,?_,?_,λj x hj hx=>?_⟩
 .intro j c g bs e hj hg;refine b.cells j c g bs e (a.cells j c g bs e hj hg) λhm=>?_;by_cases h0:g=0
  .exact h0
  .rcases hy g hm h0 with h3|h3
   .exact hg h3
   .have:=hw.dY j c g bs e hj;omega
 .intro g hg hx;have hx1:Y g->g=0:=λhm=>by
   grind
  rw[b.oV g (abX hg a.next) hx1,a.oV g hg hx]
 .intro j hj;rw[b.used j (afW hj a.next),a.used j hj]
 .intro j hj hn;exact b.none j (afW hj a.next) (a.none j hj hn)
 .have hlt:=hw.mlt hj;refine b.maps j x (a.maps j x hj hx) λhy2=>?_
  grind
theorem Fr.mono {X Y:Nat->Prop}{h h':af}(hw:WF h)(a:Fr X h h')(hs:∀g,X g->g≠0->Y g\/h.next<g):Fr Y h h':=
 Fr.trans hw (Fr.refl hw) a hs
theorem gY (j:Nat):Nat.beq j j=true:=afo j
theorem bD {i j:Nat}(h:i≠j):Nat.beq i j=false:=by
 grind [absurd,Nat.eq_of_beq_eq_true]
theorem wX {h:af}{b:Nat}{c:δ}{g base:Nat}{e:κ}:(h.sr b c g base e).get b=some (.cells c g base e):=by
 simp[af.sr,gY]
theorem NP {h:af}{b j:Nat}{c:δ}{g base:Nat}{e:κ}{c':δ}{g' b':Nat}{e':κ}(hj:h.get j=some (.cells c' g' b' e'))(hg:g'≠g)(hb:j≠b) :
  (h.sr b c g base e).get j=some (.cells c' g' b' e'):=by
 simp[af.sr,bD hb,hj,bD hg]
theorem vE {h:af}{b j:Nat}{c:δ}{g base:Nat}{e:κ}{k:GN}(hj:(h.sr b c g base e).get j=some k):(j=b/\k=.cells c g base e)\/(j≠b/\h.get j=some k):=by
 unfold af.sr at hj;simp only at hj;by_cases hb:j=b
 .simp_all
 .rw[bD hb] at hj
  grind
theorem WF.sr {h:af}(hw:WF h){b:Nat}{c c0:δ}{g base base0:Nat}{e e0:κ}(hb:h.get b=some (.cells c0 g base0 e0)):WF (h.sr b c g base e):=by
 have hlt:b<h.next:=by
  by_cases hx:b<h.next
  .exact hx
  .rw[hw.get b (by omega)] at hb;cases hb
 refine⟨λj hj=>?_,hw.used,λj c' g' b' e' hj=>?_,hw.maps⟩
 .have h0:=hw.get j hj;have hj:h.next<=j:=hj
  cases hq:(h.sr b c g base e).get j with
  |none=>rfl
  |some k=>
   rcases vE hq with⟨h1,_⟩|⟨_,h1⟩
   .omega
   .rw[h0] at h1;cases h1
 .rcases vE hj with⟨_,h1⟩|⟨_,h1⟩
  .cases h1;exact hw.dY _ _ _ _ _ hb
  .exact hw.dY _ _ _ _ _ h1
theorem Fr.sr {h:af}(hw:WF h){b:Nat}{c c0:δ}{g base base0:Nat}{e e0:κ}(h0:g≠0)(hb:h.get b=some (.cells c0 g base0 e0)):Fr (·=g) h (h.sr b c g base e):=by
 refine⟨hw.sr hb,aao _,?_,λ_ _ _=>rfl,λ_ _=>rfl,?_,λ_ _ e _=>e⟩
 .intro j c' g' b' e' hj hg;have hg:g'≠g:=λe1=>h0 (by rw[<-e1];exact hg e1);refine NP hj hg λhjb=>?_;subst hjb;rw[hb] at hj;cases hj;exact hg rfl
 .intro j hj hn;cases hq:(h.sr b c g base e).get j with
  |none=>rfl
  |some k=>
   rcases vE hq with⟨h1,_⟩|⟨_,h1⟩
   .subst h1;rw[hn] at hb;cases hb
   .rw[hn] at h1;cases h1
theorem kO {h:af}{nm nx:Nat}{e:κ}{cs:δ}:(h.dA nm nx e cs).get nm=some (.cells cs (nm+1) 0 e):=by
 simp[af.dA,gY]
theorem gh {h:af}{nm nx j:Nat}{e:κ}{cs:δ}(hj:j≠nm):(h.dA nm nx e cs).get j=h.get j:=by
 simp[af.dA,bD hj]
theorem vF {h:af}{nm nx:Nat}{e:κ}{cs:δ}:(h.dA nm nx e cs).oV (nm+1)=cs.length:=by
 simp[af.dA,gY]
theorem yp {h:af}{nm nx g:Nat}{e:κ}{cs:δ}(hg:g≠nm+1):(h.dA nm nx e cs).oV g=h.oV g:=by
 simp[af.dA,bD hg]
theorem WF.dA {h:af}(hw:WF h){nm nx:Nat}(h1:nm<nx)(h2:h.next<=nx){e:κ}{cs:δ}:WF (h.dA nm nx e cs):=by
 refine⟨λj hj=>?_,λj hj=>?_,λj c g b e' hj=>?_,λj hj=>hw.maps j (abX h2 hj)⟩
 .have hj:nx<=j:=hj;rw[gh (by omega)];exact hw.get j (by omega)
 .have hj:nx<=j:=hj;simp[af.dA,bD (show j≠nm by omega)];exact hw.used j (by omega)
 .by_cases hn:j=nm
  .subst hn;rw[kO] at hj;cases hj;exact h1
  .rw[gh hn] at hj;exact abX (hw.dY _ _ _ _ _ hj) h2
theorem WF.new {h:af}(hw:WF h){e:κ}{cs:δ}:WF (h.new e cs):=hw.dA (aam _) (agC _)
theorem Fr.new {h:af}(hw:WF h){e:κ}{cs:δ}:Fr (λ_=>False) h (h.new e cs):=by
 refine⟨hw.new,agC _,?_,?_,?_,?_,λ_ _ e _=>e⟩
 .intro j c g b e' hj _;rw[af.new,gh]
  .exact hj
  .intro hn;subst hn;rw[hw.get _ (aao _)] at hj;cases hj
 .intro g hg _;exact yp (by omega)
 .intro j hj;simp[af.new,af.dA,bD (show j≠h.next by omega)]
 grind [af.new,af.new,gh]
theorem WF.eC {h:af}(hw:WF h){n:Nat}:WF { h with next:=h.next+n }:=
 ⟨λj hj=>hw.get j (by simp at hj;omega),λj hj=>hw.used j (by simp at hj;omega),λj c g b e hj=>abX (hw.dY j c g b e hj) (by simp),λj hj=>hw.maps j (by simp at hj;omega)⟩
theorem Fr.eC {h:af}(hw:WF h){n:Nat}:Fr (λ_=>False) h { h with next:=h.next+n }:=
 ⟨hw.eC,by simp,λ_ _ _ _ _ e _=>e,λ_ _ _=>rfl,λ_ _=>rfl,λ_ _ e=>e,λ_ _ e _=>e⟩
theorem Fr.dA {X:Nat->Prop}{h0 h:af}(hw:WF h0)(a:Fr X h0 h){k:Nat}(hk:h0.next<=k)(hk2:k<h.next){e:κ}{cs:δ}:Fr X h0 (h.dA k h.next e cs):=by
 refine⟨a.wf.dA hk2 (aao _),a.next,?_,?_,?_,?_,λj x hj hx=>a.maps j x hj hx⟩
 .intro j c g b e' hj hg;have:=a.cells j c g b e' hj hg;by_cases hn:j=k
  .subst hn;rw[hw.get j hk] at hj;cases hj
  .rw[gh hn];exact this
 .intro g hg hx;rw[yp (by omega)];exact a.oV g hg hx
 .intro j hj;have:j≠k:=by omega
  simp[af.dA,bD this];exact a.used j hj
 .intro j hj hn;rw[gh (by omega)];exact a.none j hj hn
def rL (h:af)(s:Sl)(sz:Nat)(e:κ)(cs:δ)(g:Nat):Prop:=
 cs.length=s.len*sz/\((s=⟨none,0,0⟩/\g=0)\/(0<g/\g<=h.next/\(s.cap=0\/s.cap=s.len+1)/\∃b base,s.a=some ⟨b,0,none⟩/\h.get b=some (.cells cs g base e)/\h.oV g=base+cs.length))
theorem rL.nil {h:af}{sz:Nat}{e:κ}:rL h ⟨none,0,0⟩ sz e [] 0:=⟨by simp,.inl ⟨rfl,rfl⟩⟩
theorem rL.fr {h h':af}{s:Sl}{sz:Nat}{e:κ}{cs:δ}{g:Nat}{X:Nat->Prop}(o:rL h s sz e cs g)(f:Fr X h h')(hg:X g->g=0):rL h' s sz e cs g:=by
 obtain⟨h1,h2⟩:=o;refine⟨h1,?_⟩;rcases h2 with h2|⟨h2,h3,h4,b,base,h5,h6,h7⟩
 .exact .inl h2
 .exact .inr ⟨h2,abX h3 f.next,h4,b,base,h5,f.cells _ _ _ _ _ h6 hg,by rw[f.oV g h3 hg];exact h7⟩
theorem rL.au {h:af}{s:Sl}{sz:Nat}{e:κ}{cs:δ}{g:Nat}(o:rL h s sz e cs g)(hn:s.len≠0) :
  ∃b base,s.a=some ⟨b,0,none⟩/\h.get b=some (.cells cs g base e)/\g≠0:=by
 obtain⟨_,h2⟩:=o
 grind
theorem rL.le {h:af}{s:Sl}{sz:Nat}{e:κ}{cs:δ}{g:Nat}(o:rL h s sz e cs g):g<=h.next:=by
 obtain⟨_,h2⟩:=o;rcases h2 with⟨_,h2⟩|⟨h2,h3,_⟩<;>omega
theorem rL.read {h:af}{s:Sl}{sz:Nat}{e:κ}{cs:δ}{g:Nat}(o:rL h s sz e cs g):aU h s.a (s.len*sz)=some cs:=by
 obtain⟨h1,h2⟩:=o
 grind [aU]
theorem rL.sr {h:af}{s:Sl}{sz:Nat}{e:κ}{cs cs':δ}{g b base:Nat}(o:rL h s sz e cs g)(hl:cs'.length=cs.length)(hn:s.len≠0)
  (ha:s.a=some ⟨b,0,none⟩) (hb:h.get b=some (.cells cs g base e)):rL (h.sr b cs' g base e) s sz e cs' g:=by
 obtain⟨h1,h2⟩:=o;rcases h2 with⟨rfl,_⟩|⟨h2,h3,h4,b2,base2,h5,h6,h7⟩
 .exact absurd rfl hn
 .rw[ha] at h5;cases h5;rw[hb] at h6;cases h6;exact⟨by omega,.inr ⟨h2,h3,h4,b,base,ha,wX,by rw[hl];exact h7⟩⟩
theorem rL.app {h:af}{s:Sl}{sz:Nat}{e:κ}{cs new:δ}{g n:Nat}{st:Bool}{Q:Sl->af->Prop}(o:rL h s sz e cs g)(hw:WF h)(hn:n≠0)(hl:new.length=n*sz)(hb:s.len+n<=cF)
  (hq:∀s' h' g',s'.len=s.len+n->s'.cap=0->rL h' s' sz e (cs++new) g'->(g'=g/\g≠0\/g'=h.next+1)->Fr (·=g) h h'->Q s' h'):Wp (Ago.app st s sz e n new) h Q:=by
 obtain⟨h1,h2⟩:=o;have hnx:=hw.get h.next (aao _)
 have key:Ago.app st s sz e n new h=s9 st s sz e n new h:=by unfold Ago.app;simp[hnx]
 suffices hh:∃s' h' ,s9 st s sz e n new h=some (s',h')/\Q s' h' by
  obtain⟨s',h',e1,e2⟩:=hh;exact⟨s',h',by rw[key];exact e1,e2⟩
 have fresh:rL (h.new e (cs++new)) ⟨some ⟨h.next,0,none⟩,s.len+n,0⟩ sz e (cs++new) (h.next+1):=
  ⟨by simp[h1,hl,aen],.inr ⟨by omega,by simp[af.new,af.dA],.inl rfl,h.next,0,rfl,kO,by rw[af.new,vF];simp⟩⟩
 have ffr:Fr (·=g) h (h.new e (cs++new)):=(Fr.new hw).mono hw (λ_ hx _=>hx.elim)
 rcases h2 with⟨rfl,rfl⟩|⟨h2,h3,h4,b,base,h5,h6,h7⟩
 .have hc:cs=[]:=acb (by simpa using h1);subst hc;refine⟨_,_,?_,hq _ _ _ rfl rfl fresh (.inr rfl) ffr⟩;unfold s9
  grind
 .have hcells:aU h (some ⟨b,0,none⟩) (s.len*sz)=some cs:=by simp[aU,h6,<-h1]
  rcases h4 with h4|h4
  ·-- in the same group
   refine⟨⟨some ⟨h.next,0,none⟩,s.len+n,0⟩,{ h with get:=λj=>cond (Nat.beq j h.next) (some (.cells (cs++new) g (base+0) e)) (h.get j),next:=h.next+1,oV:=λg'=>cond (Nat.beq g' g) (base+0+s.len*sz+new.length) (h.oV g'),used:=λj=>cond (Nat.beq j h.next) true (h.used j) },?_,hq _ _ g rfl rfl ?_ (.inl ⟨rfl,by omega⟩) ?_⟩
   .unfold s9
    grind
   .refine⟨by simp[h1,hl,aen],.inr ⟨h2,by simp;omega,.inl rfl,h.next,base+0,rfl,by simp[gY],?_⟩⟩
    simp[gY,h1];omega
   .refine⟨⟨λj hj=>?_,λj hj=>?_,λj c g' b' e' hj=>?_,λj hj=>hw.maps j (by simp at hj;omega)⟩,agC _,?_,?_,?_,?_,λ_ _ e _=>e⟩
    .simp at hj;simp[bD (show j≠h.next by omega)];exact hw.get j (by omega)
    .simp at hj;simp[bD (show j≠h.next by omega)];exact hw.used j (by omega)
    .simp only at hj;by_cases hjn:j=h.next
     .subst hjn;simp[gY] at hj;simp;omega
     .simp[bD hjn] at hj;have:=hw.dY _ _ _ _ _ hj;simp;omega
    .intro j c g' b' e' hj _;have:j≠h.next:=λhjn=>by subst hjn;rw[hnx] at hj;cases hj
     simp[bD this];exact hj
    .grind [bD]
    .intro j hj;simp[bD (show j≠h.next by omega)]
    .intro j hj hx;simp[bD (show j≠h.next by omega)];exact hx
  .refine⟨_,_,?_,hq _ _ _ rfl rfl fresh (.inr rfl) ffr⟩;unfold s9
   grind
theorem ie {enc:α->δ}{sz:Nat}(he:∀x,(enc x).length=sz):∀(L:List α),(L.flatMap enc).length=L.length*sz
 |[]=>by simp
 |x::L=>by rw[adr,abY,he,ie he L,aas,aen,ag1,aiR]
theorem HO {enc:α->δ}{sz:Nat}(he:∀x,(enc x).length=sz):∀(L:List α) (i:Nat),(L.flatMap enc).drop (i*sz)=(L.drop i).flatMap enc
 |L,0=>by simp
 |[],i+1=>by simp
 |x::L,i+1=>by
  rw[adr,List.drop_succ_cons,<-HO he L i,aen,ag1,aiR,<-ag3]
  congr 1
  rw[<-he x,List.drop_left]
theorem HP {enc:α->δ}{sz:Nat}(he:∀x,(enc x).length=sz){L:List α}{i:Nat}{x:α}(hi:L[i]?=some x):((L.flatMap enc).drop (i*sz)).take sz=enc x:=by
 grind [HO,List.getElem?_eq_some_iff,List.drop_eq_getElem_cons,List.take_left]
theorem Dv {enc:α->δ}{sz:Nat}(he:∀x,(enc x).length=sz){L:List α}{i:Nat}{x x':α}(hi:L[i]?=some x){o:Nat}{vs:δ}(ho:o+vs.length<=sz)(hx:enc x'=bf (enc x) o vs) :
  bf (L.flatMap enc) (i*sz+o) vs=(L.set i x').flatMap enc:=by
 have hlt:=(List.getElem?_eq_some_iff.1 hi).1;have hL:L=L.take i++x::L.drop (i+1):=by
  grind [List.drop_eq_getElem_cons,List.getElem?_eq_some_iff,List.take_append_drop]
 have hs:L.set i x'=L.take i++x'::L.drop (i+1):=by rw[ag2,AT hlt]
 have hl:((L.take i).flatMap enc).length=i*sz:=by grind [ie,List.length_take,Nat.min_eq_left,Nat.le_of_lt]
 rw[hs,agL,adr,hx]
 conv=>lhs;rw[hL]
 rw[agL,adr];unfold bf;rw[<-hl,List.take_length_add_append,ahz,List.drop_length_add_append,List.take_append_of_le_length (by rw[he];omega),List.drop_append_of_le_length (by rw[he];omega)];simp
structure LB (h:af) (b:Nat) (cs:δ) (e:κ):Prop where
 get:h.get b=some (.cells cs (b+1) 0 e)
theorem LB.new {h:af}{e:κ}{cs:δ}:LB (h.new e cs) h.next cs e:=⟨kO⟩
theorem LB.fr {h h':af}{b:Nat}{cs:δ}{e:κ}{X:Nat->Prop}(l:LB h b cs e)(f:Fr X h h')(hx:¬X (b+1)):LB h' b cs e:=⟨f.cells _ _ _ _ _ l.get λhm=>absurd hm hx⟩
theorem LB.lt {h:af}{b:Nat}{cs:δ}{e:κ}(l:LB h b cs e)(hw:WF h):b<h.next:=by
 have:=hw.dY _ _ _ _ _ l.get;omega
theorem LB.st {h:af}{b o:Nat}{cs vs:δ}{e:κ}(l:LB h b cs e)(hw:WF h)(ho:o+vs.length<=cs.length)(hv:vs.all eZ=true){Q:Unit->af->Prop}
  (hq:∀h',LB h' b (bf cs o vs) e->Fr (·=b+1) h h'->Q () h'):Wp (bF ⟨b,o,none⟩ vs) h Q:=by
 rw[IF];exact⟨cs,b+1,0,e,l.get,by omega,ho,hv,hq _ ⟨wX⟩ (Fr.sr hw (by omega) l.get)⟩
theorem LB.ld {h:af}{b o:Nat}{cs:δ}{e:κ}(l:LB h b cs e){lf:eN}{v:ξ}{x:lf.den}(hv:cs[o]?=some v)(hx:Al lf v=some x):h.ld lf b o=some x:=by
 unfold af.ld;rw[l.get];simp only[hv];exact hx
theorem LB.fC {h:af}{b o:Nat}{cs:δ}{e:κ}(l:LB h b cs e){ls:List eN}{x:bS ls}(hl:o+ls.length<=cs.length)(hx:zG ls ((cs.drop o).take ls.length)=some x):h.fC ls b o=some x:=by
 unfold af.fC;rw[l.get];simp only[hl,agN];exact hx
theorem Fr.fresh {X Y:Nat->Prop}{h0 h h':af}(hw:WF h0)(a:Fr X h0 h)(b:Fr Y h h')(hg:∀g,Y g->X g\/h0.next<g):Fr X h0 h':=a.trans hw b λg hy _=>hg g hy
theorem IH {e:κ}{z:δ}{l c:Int}{h:af}{Q:Sl->af->Prop}(h1:0<=l)(h2:l<=c)(h3:c<=cF)(q:Q ⟨some ⟨h.next,0,none⟩,l.toNat,c.toNat+1⟩ (h.new e (List.replicate c.toNat z).flatten))(hz:z.all eZ=true:=by rfl):Wp (vS none e z l c) h Q:=by
 have hs:(List.replicate c.toNat z).flatten.all eZ=true:=by
  grind
 exact⟨_,_,by unfold vS aM;rw[AT ⟨h1,h2,h3⟩,AT hs],q⟩
theorem UN {k:Nat}{e:κ}{z:δ}{l c:Int}{h:af}{Q:Sl->af->Prop}(h1:0<=l)(h2:l<=c)(h3:c<=cF)(k1:h.used k=false)(k2:k<h.next)(k3:h.get k=none)
  (q:Q ⟨some ⟨k,0,none⟩,l.toNat,c.toNat+1⟩ (h.dA k h.next e (List.replicate c.toNat z).flatten)) (hz:z.all eZ=true:=by rfl):Wp (vS (some k) e z l c) h Q:=by
 have hs:(List.replicate c.toNat z).flatten.all eZ=true:=by
  grind
 exact⟨_,_,by unfold vS aM;grind,q⟩
theorem Co {s:Sl}{lo hi:Int}{e:κ}{z:Nat}{h:af}{Q:Sl->af->Prop}(h1:0<=lo)(h2:lo<=hi)(h3:hi<=s.len)(h4:oU h s e=true)
  (q:Q ⟨s.a.map (·.plus (lo.toNat*z)),hi.toNat-lo.toNat,s.cap-(if s.cap=0 then 0 else lo.toNat)⟩ h):Wp (lu s lo hi e z) h Q:=
 ⟨_,_,by unfold lu;rw[AT ⟨h1,h2,h3,h4⟩],q⟩
theorem yq {m:M α}{as:List θ}{h:af}{Q:α->af->Prop}(hm:Wp m h λx h'=>(∀a,some a∈as->h'.get a.block=h.get a.block)/\Q x h'):Wp (mY as m) h Q:=by
 obtain⟨x,h',e,hs,q⟩:=hm;refine⟨x,h',?_,q⟩;have:sameAt h h' as=true:=by
  clear e q
  induction as with
  |nil=>rfl
  |cons a r ih=>
   have ih:=ih λa ha=>hs a (BY _ ha);cases a with
   |none=>exact ih
   |some b=>
    have hb:=hs b (by simp);unfold sameAt;cases h.dec (h.get b.block=h'.get b.block) with
    |isTrue _=>exact ih
    |isFalse hn=>exact absurd hb.symm hn
 unfold mY;rw[e];simp only[this]
theorem YA {k:Nat}{m:M α}{h:af}{Q:α->af->Prop}(hm:Wp m h λx h1=>BP k m h x h1/\Q x h1):Wp (B7 k m) h Q:=by
 obtain⟨x,h1,e,hb,q⟩:=hm;refine⟨x,h1,?_,q⟩;unfold B7;rw[e];simp only;split
 .rfl
 .rename_i hn _;exact absurd hb hn
theorem kB {cs:List Ty}{x:ξ}{c:aL cs}{h:af}{Q:aL cs->af->Prop}(hx:vy cs (Ib x)=some c)(q:Q c h):Wp (pG cs x) h Q:=
 ⟨c,h,by unfold pG;rw[hx],q⟩
theorem aco {k k':IntKind}(h:PI k k'=true):k=k':=by cases k<;>cases k'<;>simp_all[PI,PH]
theorem yr {a b:ζ}(h:mX a b=true):a=b:=by
 unfold mX at h;have h:=beq_iff_eq.1 h;rw[ByteArray.toList_eq,ByteArray.toList_eq] at h;cases a;cases b;simp at h;rw[h]
theorem P4 {v u:ξ}(h:Bc v u=true):v=u:=by
 cases v<;>cases u<;>simp only[Bc,aau,OF] at h<;>try cases h
 .rename_i a b;simp at h;rw[h]
 .rename_i h1 h2;rw[aco h1,h2]
 .rw[yr h]
theorem P5:∀{xs ys:δ},yf xs ys=true->xs=ys
 |[],[],_=>rfl
 |[],_::_,h=>by cases h
 |_::_,[],h=>by cases h
 |x::xs,y::ys,h=>by
  simp only[yf,aau] at h;rw[P4 h.1,P5 h.2]
theorem II {x y:ξ}(h:wG x y=true):x=y:=by
 unfold wG at h
 grind [Array.toList_inj,P5,P4]
theorem wY {k v k':ξ}{c:Nat}:∀{es:List nU},xz k' (pY k v c es)=if wG k' k then some v else xz k' es
 |[]=>by simp only[pY,xz,gw];cases wG k' k<;>rfl
 |e::r=>by
  have ih:=wY (k:=k) (v:=v) (k':=k') (c:=c) (es:=r);simp only[pY];cases hq:wG k e.key
  .simp only[xz,gw] at ih⊢;cases h2:wG k' e.key
   .simp only;exact ih
   grind [II,wG]
  grind [II,xz,gw,wG]
theorem Bt {k v:ξ}{c:Nat}:∀{es:List nU},(pY k v c es).length=if (gw k es).isSome then es.length else es.length+1
 |[]=>rfl
 |e::r=>by
  have ih:=Bt (k:=k) (v:=v) (c:=c) (es:=r);by_cases hq:wG k e.key=true
  .simp[pY,gw,hq]
  .have hq:wG k e.key=false:=by simpa using hq
   grind [pY,gw,List.length_cons]
def qk (c:Nat):List nU->Prop
 |[]=>True
 |e::r=>e.born<c/\(∀x∈r,x.born≠e.born)/\qk c r
theorem qk.mono {c c':Nat}(hc:c<=c'):∀{es:List nU},qk c es->qk c' es
 |[],_=>trivial
 |e::r,h=>⟨afW h.1 hc,h.2.1,qk.mono hc h.2.2⟩
theorem qk.lt {c:Nat}:∀{es:List nU},qk c es->∀e∈es,e.born<c
 |[],_=>by simp
 |e::r,h=>λx hx=>by
  rcases List.mem_cons.1 hx with rfl|hx
  .exact h.1
  .exact qk.lt h.2.2 x hx
theorem HQ {k v:ξ}{c:Nat}:∀{es:List nU},∀x∈pY k v c es,(∃y∈es,x.born=y.born)\/x.born=c
 |[]=>by simp[pY]
 |e::r=>by
  intro x hx;simp only[pY] at hx;split at hx
  .grind
  .rcases List.mem_cons.1 hx with rfl|hx
   .exact .inl ⟨x,by simp,rfl⟩
   .rcases HQ x hx with⟨y,h1,h2⟩|h1
    .exact .inl ⟨y,BY _ h1,h2⟩
    .exact .inr h1
theorem qk.put {k v:ξ}{c c':Nat}(hc:c<=c'):∀{es:List nU},qk c es->(gw k es=none->c<c')->qk c' (pY k v c es)
 |[],_,h=>⟨h rfl,by simp,trivial⟩
 |e::r,hs,h=>by
  simp only[pY];simp only[gw] at h;cases hq:wG k e.key
  .rw[hq] at h;refine⟨afW hs.1 hc,λx hx=>?_,qk.put hc hs.2.2 h⟩;rcases HQ x hx with⟨y,h1,h2⟩|h1
   .rw[h2];exact hs.2.1 y h1
   .rw[h1];have:=hs.1;omega
  .exact⟨afW hs.1 hc,hs.2.1,hs.2.2.mono hc⟩
structure MB (h:af) (m:Nat) (kt:κ) (f:ξ->Option ξ) (n:Nat):Prop where
 ex:∃c es,h.jy m=some ⟨kt,c,es⟩/\qk c es/\(∀k,xz k es=f k)/\es.length=n
theorem MB.lt {h:af}{m:Nat}{kt:κ}{f:ξ->Option ξ}{n:Nat}(l:MB h m kt f n)(hw:WF h):m<h.next:=by
 obtain⟨c,es,h1,_⟩:=l.ex;exact hw.mlt h1
theorem MB.fr {h h':af}{m:Nat}{kt:κ}{f:ξ->Option ξ}{n:Nat}{X:Nat->Prop}(l:MB h m kt f n)(fr:Fr X h h')(hx:¬X (m+1)):MB h' m kt f n:=by
 obtain⟨c,es,h1,h2⟩:=l.ex;exact⟨c,es,fr.maps _ _ h1 hx,h2⟩
theorem FG {h:af}{m:Nat}{kt:κ}{c:Nat}{es:List nU}(hm:h.jy m=some ⟨kt,c,es⟩):h.zZ kt m=some (c,es):=by
 unfold af.zZ;rw[hm];simp[gY]
theorem UO {kt:κ}{h:af}(hw:WF h){Q:Nat->af->Prop}(hq:∀h',MB h' h.next kt (λ_=>none) 0->Fr (λ_=>False) h h'->Q h.next h'):Wp (Be kt) h Q:=by
 refine⟨_,_,rfl,hq _ ⟨0,[],by simp[af.nC,gY],trivial,λ_=>rfl,rfl⟩ ⟨⟨λj hj=>?_,λj hj=>?_,λj c g b e hj=>?_,λj hj=>?_⟩,agC _,λ_ _ _ _ _ e _=>e,λ_ _ _=>rfl,λj hj=>?_,λ_ _ e=>e,λj x hj _=>?_⟩⟩
 .exact hw.get j (by simp at hj;omega)
 .simp at hj;simp[bD (show j≠h.next by omega)];exact hw.used j (by omega)
 .exact abX (hw.dY j c g b e hj) (by simp)
 .simp at hj;simp[af.nC,bD (show j≠h.next by omega)];exact hw.maps j (by omega)
 .simp[bD (show j≠h.next by omega)]
 .have:=hw.mlt hj;simp[af.nC,bD (show j≠h.next by omega)];exact hj
theorem Fr.nC {h:af}(hw:WF h){m:Nat}{x:X3}(hlt:m<h.next):Fr (·=m+1) h (h.nC m x):=by
 refine⟨⟨hw.get,hw.used,hw.dY,λj hj=>?_⟩,aao _,λ_ _ _ _ _ e _=>e,λ_ _ _=>rfl,λ_ _=>rfl,λ_ _ e=>e,λj x hj hx=>?_⟩
 .have hj:h.next<=j:=hj
  simp[af.nC,bD (show j≠m by omega)];exact hw.maps j hj
 grind [af.nC,bD]
theorem MB.ahg {h:af}{m:Nat}{kt:κ}{f:ξ->Option ξ}{n:Nat}(l:MB h m kt f n){T:Ty}{z:T.den}{k:ξ}{Q:Bool×T.den->af->Prop}
  (h1:∀v,f k=some v->∃x,KM T v=some x/\Q (true,x) h) (h2:f k=none->Q (false,z) h):Wp (xA kt T z (some m) k) h Q:=by
 obtain⟨c,es,e1,_,e2,_⟩:=l.ex;unfold Wp xA;simp only[FG e1,e2]
 grind
def xM (f:ξ->Option ξ)(k v:ξ):ξ->Option ξ:=λk'=>if wG k' k then some v else f k'
theorem MB.ahh {h:af}{m:Nat}{kt:κ}{f:ξ->Option ξ}{n:Nat}(l:MB h m kt f n)(hw:WF h){k v:ξ}{Q:Unit->af->Prop}
  (hq:∀h',MB h' m kt (xM f k v) (if (f k).isSome then n else n+1)->Fr (·=m+1) h h'->Q () h'):Wp (Df kt (some m) k v) h Q:=by
 have hlt:=l.lt hw;obtain⟨c,es,e1,e3,e2,e4⟩:=l.ex;unfold Wp Df;simp only[FG e1];have hk:(gw k es).isSome=(f k).isSome:=by rw[<-e2 k];unfold xz;cases gw k es<;>rfl
 refine⟨(),h.nC m ⟨kt,(match gw k es with|some _=>c|none=>c+1),pY k v c es⟩,rfl,hq _ ⟨_,_,by simp[af.nC,gY];exact⟨rfl,rfl⟩,?_,λk'=>?_,?_⟩ (Fr.nC hw hlt)⟩
 .cases hm:gw k es with
  |none=>exact e3.put (agC _) λ_=>aam _
  |some x=>exact e3.put (aao _) λhn=>by rw[hm] at hn;cases hn
 .rw[wY,e2];rfl
 .rw[Bt,hk,e4]
theorem MB.len {h:af}{m:Nat}{kt:κ}{f:ξ->Option ξ}{n:Nat}(l:MB h m kt f n){Q:Nat->af->Prop}(q:Q n h):Wp (Dg (some m)) h Q:=by
 obtain⟨c,es,e1,_,_,e4⟩:=l.ex;exact⟨n,h,by unfold Dg;simp only[e1,e4],q⟩
def Bu (h:af)(m:Nat)(k:ξ)(st:Nat):Prop:=∃x,h.jy m=some x/\∃e,gw k x.es=some e/\e.born=st
theorem Bu.fr {h h':af}{m:Nat}{k:ξ}{st:Nat}{X:Nat->Prop}(l:Bu h m k st)(fr:Fr X h h')(hx:¬X (m+1)):Bu h' m k st:=by
 obtain⟨x,h1,h2⟩:=l;exact⟨x,fr.maps _ _ h1 hx,h2⟩
theorem FH {k v:ξ}{c:Nat}(hk:wG k k=true):∀{es:List nU},gw k es=none->gw k (pY k v c es)=some ⟨k,v,c⟩
 |[],_=>by simp[pY,gw,hk]
 |e::r,h=>by
  simp only[gw] at h;simp only[pY];cases hq:wG k e.key
  .rw[hq] at h;simp only[gw,hq];exact FH hk h
  .rw[hq] at h;cases h
theorem MB.entry {h:af}{m:Nat}{kt:κ}{f:ξ->Option ξ}{n:Nat}(l:MB h m kt f n)(hw:WF h){T:Ty}{z:T.den}{k:ξ}(hk:wG k k=true){Q:T.den×Nat->af->Prop}
  (h1:∀v,f k=some v->∃x,KM T v=some x/\∀st,Bu h m k st->Q (x,st) h)
  (h2:f k=none->∀h' st,MB h' m kt (xM f k (De T z)) (n+1)->Bu h' m k st->Fr (·=m+1) h h'->Q (z,st) h'):Wp (wH kt T z (some m) k) h Q:=by
 have hlt:=l.lt hw;obtain⟨c,es,e1,e3,e2,e4⟩:=l.ex;unfold Wp wH;simp only[FG e1];cases hm:gw k es with
 |none=>
  have hf:f k=none:=by rw[<-e2];unfold xz;rw[hm];rfl
  refine⟨_,_,rfl,h2 hf _ _ ⟨c+1,pY k (De T z) c es,by simp[af.nC,gY],e3.put (agC _) λ_=>aam _,λk'=>?_,?_⟩ ⟨⟨kt,c+1,pY k (De T z) c es⟩,by simp[af.nC,gY],⟨k,De T z,c⟩,FH hk hm,rfl⟩ (Fr.nC hw hlt)⟩
  .rw[wY,e2];rfl
  .rw[Bt,hm,e4];rfl
 |some e=>
  have hf:f k=some e.val:=by rw[<-e2];unfold xz;rw[hm];rfl
  obtain⟨x,hx,q⟩:=h1 _ hf;simp only[hx];exact⟨_,_,rfl,q _ ⟨_,e1,e,hm,rfl⟩⟩
theorem FI {k v:ξ}{c:Nat}:∀{es:List nU} {e:nU},qk c es->gw k es=some e->Hs e.born v es=some (pY k v c es)
 |[],e,_,h=>by cases h
 |x::r,e,hs,h=>by
  simp only[gw] at h;simp only[Hs,pY];cases hq:wG k x.key
  .rw[hq] at h;have hmem:∀{es:List nU},gw k es=some e->e∈es:=by
    intro es
    induction es with
    |nil=>intro h;cases h
    |cons y r ih=>
     grind [gw,List.mem_cons_of_mem]
   have hne:=hs.2.1 e (hmem h);rw[bD (λe2=>hne e2.symm)];simp only;rw[FI hs.2.2 h]
  grind [gY,II]
theorem MB.store {h:af}{m:Nat}{kt:κ}{f:ξ->Option ξ}{n:Nat}(l:MB h m kt f n)(hw:WF h){k v:ξ}{st:Nat}(hs:Bu h m k st){Q:Unit->af->Prop}
  (hq:∀h',MB h' m kt (xM f k v) n->Fr (·=m+1) h h'->Q () h'):Wp (wI (some m) (st:Int) v) h Q:=by
 have hlt:=l.lt hw;obtain⟨c,es,e1,e3,e2,e4⟩:=l.ex;obtain⟨x,h1,e,h2,rfl⟩:=hs;rw[e1] at h1;cases h1;have hp:=FI (v:=v) e3 h2;have hd:decide (0<=((e.born:Nat):Int))=true:=by simp
 unfold Wp wI;simp only[e1,hd,IT,hp];refine⟨(),h.nC m ⟨kt,c,pY k v c es⟩,rfl,hq _ ⟨c,pY k v c es,by simp[af.nC,gY],e3.put (aao _) (λhn=>by simp only at h2;rw[h2] at hn;cases hn),λk'=>?_,?_⟩ (Fr.nC hw hlt)⟩
 .rw[wY,e2];rfl
 .simp only at h2;rw[Bt,h2,e4];rfl
end Go.Ago
