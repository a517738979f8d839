
import Derived.Test.YtdbjhobkhjneeaaGreatDoorAgoI
set_option linter.all false
namespace Go.Ago
open Go
variable {α β:Type}
def Wp (m:M α)(h:aj)(Q:α->aj->Prop):Prop:=∃x h',m h=some (x,h')/\Q x h'
def Wp.mono {m:M α}{h}{Q Q'}(hm:Wp m h Q)(hq:∀x h',Q x h'->Q' x h'):Wp m h Q':=by
 obtain⟨x,h',e,q⟩:=hm;exact⟨x,h',e,hq _ _ q⟩
theorem ag {m}{f:α->M β}{h}{Q}:Wp (sh m f) h Q↔Wp m h λx h'=>Wp (f x) h' Q:=by
 constructor
 .rintro⟨y,h2,e,q⟩;unfold sh at e;split at e
  .rename_i x h1 hm;exact⟨x,h1,hm,y,h2,e,q⟩
  .cases e
 .rintro⟨x,h1,hm,y,h2,e,q⟩;exact⟨y,h2,by unfold sh;rw[hm];exact e,q⟩
def Wp.seq {m}{f:α->M β}{h}{R}{Q}(hm:Wp m h R)(hf:∀x h',R x h'->Wp (f x) h' Q):Wp (sh m f) h Q:=ag.2 (hm.mono hf)
def af {x:α}{h}{Q}:Wp (AI x) h Q↔Q x h:=
 ⟨λ⟨_,_,e,q⟩=>by cases e;exact q,λq=>⟨x,h,rfl,q⟩⟩
theorem akV {p}{h}{Q}:Wp (nn p) h Q↔∃a,p=some a/\Q a h:=by
 constructor
 .rintro⟨x,h',e,q⟩;cases p<;>simp[nn] at e
  grind
 .rintro⟨a,rfl,q⟩;exact⟨a,h,rfl,q⟩
def qV {a}{h}{Q}:Wp (nn (some a)) h Q↔Q a h:=by simp[akV]
theorem EX {c}[Decidable c]{a b:M α}{h}{Q}:Wp (if c then a else b) h Q↔(c->Wp a h Q)/\(¬c->Wp b h Q):=by
 grind
theorem Qr {b}{h}{Q}:Wp (pI b) h Q↔b=true/\Q () h:=by
 constructor
 .rintro⟨x,h',e,q⟩;cases b<;>simp[pI] at e;grind
 .rintro⟨rfl,q⟩;exact⟨(),h,rfl,q⟩
def aj.ld (h:aj)(l:uR)(b o:Nat):Option l.den:=
 match h.get b with
 |some (.cells c _ _ _)=>(match c[o]? with|some v=>Cv l v|none=>none)
 |_=>none
theorem xE {l}{a}{h}{Q}:Wp (eU l a) h Q↔∃x,h.ld l a.block a.off=some x/\Q x h:=by
 have key:eU l a h=(match h.ld l a.block a.off with|some x=>some (x,h)|none=>none):=by
  unfold eU aj.cell aj.ld
  grind
 constructor
 .rintro⟨x,h',e,q⟩
  grind
 .rintro⟨x,hx,q⟩;exact⟨x,h,by rw[key,hx],q⟩
def aj.ldI (h:aj)(k:IntKind)(b o:Nat):Option Int:=h.ld (.int k) b o
def aj.ldB (h:aj)(b o:Nat):Option Bool:=h.ld .bool b o
def aj.Je (h:aj)(b o:Nat):Option ζ:=h.ld .str b o
def aj.ldV (h:aj)(b o:Nat):Option Sl:=h.ld .sl b o
def rU {k}{a}{h}{Q}:Wp (α:=Int) (eU (.int k) a) h Q↔∃x,h.ldI k a.block a.off=some x/\Q x h:=xE
def rV {a}{h}{Q}:Wp (α:=Bool) (eU .bool a) h Q↔∃x,h.ldB a.block a.off=some x/\Q x h:=xE
def rW {a}{h}{Q}:Wp (α:=ζ) (eU .str a) h Q↔∃x,h.Je a.block a.off=some x/\Q x h:=xE
def rX {a}{h}{Q}:Wp (α:=Sl) (eU .sl a) h Q↔∃x,h.ldV a.block a.off=some x/\Q x h:=xE
def aj.fH (h:aj) ls (b o:Nat):Option (cF ls):=
 match h.get b with
 |some (.cells c _ _ _)=>if o+ls.length<=c.length then Cw ls ((c.drop o).take ls.length) else none
 |_=>none
theorem D7 {ls}{a}{h}{Q}:Wp (bK ls a) h Q↔∃x,h.fH ls a.block a.off=some x/\Q x h:=by
 have key:bK ls a h=(match h.fH ls a.block a.off with|some x=>some (x,h)|none=>none):=by
  unfold bK aW aj.fH
  grind
 constructor
 .rintro⟨x,h',e,q⟩
  grind
 .rintro⟨x,hx,q⟩;exact⟨x,h,by rw[key,hx],q⟩
theorem agK {a}{vs}{h}{Q} :
  Wp (rE a vs) h Q↔∃c g base e,h.get a.block=some (.cells c g base e)/\g≠0/\a.off+vs.length<=c.length/\vs.all fC=true/\Q () (h.vR a.block (aU c a.off vs) g base e):=by
 constructor
 .rintro⟨x,h',e,q⟩
  grind [rE]
 .rintro⟨c,g,b,el,hg,h1,h2,h3,q⟩;exact⟨(),_,by unfold rE;grind,q⟩
theorem CL {e}{cs}{h}{Q}:Wp (iB none e cs) h Q↔cs.all fC=true/\Q h.next (h.new e cs):=by
 constructor
 .rintro⟨x,h',he,q⟩
  grind [iB]
 .rintro⟨hc,q⟩;exact⟨_,_,by unfold iB;rw[By hc],q⟩
theorem Od {k}{e}{cs}{h}{Q} :
  Wp (iB (some k) e cs) h Q↔cs.all fC=true/\h.used k=false/\k<h.next/\h.get k=none/\Q k (h.dh k h.next e cs):=by
 constructor
 .rintro⟨x,h',he,q⟩;unfold iB at he;split at he
  .rename_i hc;simp only at he;split at he
   .rename_i hd;cases he;simp_all
   .cases he
  .cases he
 .rintro⟨hc,h1,h2,h3,q⟩;exact⟨_,_,by unfold iB;grind,q⟩
def Qs {n}{h}{Q}:Wp (eA n) h Q↔Q h.next { h with next:=h.next+n }:=
 ⟨λ⟨_,_,e,q⟩=>by cases e;exact q,λq=>⟨_,_,rfl,q⟩⟩
theorem acd {l}{n:Nat}{cs}{i}{h}{v}{x}{Q}(h1:0<=i)(h2:i<(n:Int))(hv:cs[i.toNat]?=some v)(hx:Cv l v=some x)(q:Q x h):Wp (KW l n cs i) h Q:=
 ⟨x,h,by unfold KW;grind,q⟩
theorem fM {s}{i}{h}{Q}:Wp (kE s i) h Q↔∃b,0<=i/\s[i.toNat]?=some b/\Q b h:=by
 constructor
 .rintro⟨x,h',e,q⟩
  grind [kE]
 .rintro⟨b,hi,hb,q⟩;exact⟨b,h,by unfold kE;rw[By hi,hb],q⟩
theorem gD {s}{lo hi}{h}{Q}:Wp (iF s lo hi) h Q↔0<=lo/\lo<=hi/\hi<=s.size/\Q (s.extract lo.toNat hi.toNat) h:=by
 constructor
 .rintro⟨x,h',e,q⟩
  grind [iF,Cy]
 .rintro⟨h1,h2,h3,q⟩;exact⟨_,h,by unfold iF;rw[By ⟨h1,h2,h3⟩,Cy],q⟩
theorem BB {s}{i}{z}{h}{Q}:Wp (mc s i z) h Q↔∃a,s.a=some a/\0<=i/\i<s.len/\Q (a.plus (i.toNat*z)) h:=by
 constructor
 .rintro⟨x,h',e,q⟩
  grind [mc]
 .rintro⟨a,ha,h1,h2,q⟩;exact⟨_,h,by unfold mc;grind,q⟩
theorem Lz {x y}{h}{Q}:Wp (kK x y) h Q↔x.size+y.size<=cP/\Q (x++y) h:=by
 constructor
 .rintro⟨z,h',e,q⟩
  grind [kK]
 .rintro⟨hc,q⟩;exact⟨_,h,by unfold kK;rw[By hc],q⟩
def agL {s}{z}{h}{Q}(q:(s.len=0/\Q [] h)\/∃cs,aW h s.a (s.len*z)=some cs/\Q cs h):Wp (M5 s z) h Q:=by
 unfold Wp M5;rcases q with⟨e,q⟩|⟨cs,hc,q⟩
 .rw[e];exact⟨_,_,rfl,q⟩
 .by_cases e:s.len=0
  .rw[e];rw[e] at hc;refine⟨_,_,rfl,?_⟩;have:cs=[]:=by
    unfold aW at hc;split at hc
    .simp at hc;exact hc
    .split at hc
     .simp at hc;exact hc.2
     .cases hc
   rw[<-this];exact q
  .obtain⟨n,e⟩:=Nat.exists_eq_succ_of_ne_zero e;rw[e] at hc⊢;simp only[hc];exact⟨_,_,rfl,q⟩
theorem J9 {v}{h}{Q}:Wp (kL v) h Q↔(v=.nilIface/\Q true h)\/(∃t u,v=.iface t u/\Q false h):=by
 constructor
 .rintro⟨x,h',e,q⟩;unfold kL at e
  grind
 .rintro (⟨rfl,q⟩|⟨t,u,rfl,q⟩)
  .exact⟨true,h,rfl,q⟩
  .exact⟨false,h,rfl,q⟩
structure WF (h:aj):Prop where
 get:∀j,h.next<=j->h.get j=none
 used:∀j,h.next<=j->h.used j=false
 iL:∀j c g b e,h.get j=some (.cells c g b e)->g<=h.next
 maps:∀j,h.used j=false->h.jW j=none
theorem cu {j n:Nat}{b}(h:cond (Nat.beq j n) true b=false):j≠n/\b=false:=by
 rw[bj] at h;grind
def WF.mlt {h}(hw:WF h){j}{x}(hx:h.jW j=some x):j<h.next:=by
 by_cases hj:j<h.next
 .exact hj
 .rw[hw.maps j (hw.used j (by omega))] at hx;cases hx
structure Fr (X:Nat->Prop) (h h':aj):Prop where
 wf:WF h'
 next:h.next<=h'.next
 cells:∀j c g b e,h.get j=some (.cells c g b e)->(X g->g=0)->h'.get j=some (.cells c g b e)
 oz:∀g,g<=h.next->(X g->g=0)->h'.oz g=h.oz g
 used:∀j,j<h.next->h'.used j=h.used j
 none:∀j,j<h.next->h.get j=none->h'.get j=none
 maps:∀j x,h.jW j=some x->¬X (j+1)->h'.jW j=some x
def Fr.refl {X}{h}(hw:WF h):Fr X h h:=⟨hw,aa2 _,λ_ _ _ _ _ e _=>e,λ_ _ _=>rfl,λ_ _=>rfl,λ_ _ e=>e,λ_ _ e _=>e⟩
theorem Fr.trans {X Y}{h h1 h2}(hw:WF h)(a:Fr X h h1)(b:Fr Y h1 h2)(hy:∀g,Y g->g≠0->X g\/h.next<g):Fr X h h2:=by
 refine⟨b.wf,abK a.next b.next,?_,?_,?_,?_,λj x hj hx=>?_⟩
 .intro j c g bs e hj hg;refine b.cells j c g bs e (a.cells j c g bs e hj hg) λhm=>?_;by_cases h0:g=0
  .exact h0
  .rcases hy g hm h0 with h3|h3
   .exact hg h3
   .have:=hw.iL j c g bs e hj;omega
 .intro g hg hx;have hx1:Y g->g=0:=λhm=>by
   grind
  rw[b.oz g (abK hg a.next) hx1,a.oz g hg hx]
 .intro j hj;rw[b.used j (alg hj a.next),a.used j hj]
 .intro j hj hn;exact b.none j (alg hj a.next) (a.none j hj hn)
 .have hlt:=hw.mlt hj;refine b.maps j x (a.maps j x hj hx) λhy2=>?_
  grind
def Fr.mono {X Y}{h h'}(hw:WF h)(a:Fr X h h')(hs:∀g,X g->g≠0->Y g\/h.next<g):Fr Y h h':=
 Fr.trans hw (Fr.refl hw) a hs
theorem j6 (j:Nat):Nat.beq j j=true:=akz j
theorem bM {i j:Nat}(h:i≠j):Nat.beq i j=false:=by
 grind [absurd,Nat.eq_of_beq_eq_true]
def LA {h:aj}{b}{c}{g base}{e}:(h.vR b c g base e).get b=some (.cells c g base e):=by
 simp[aj.vR,j6]
def Qt {h:aj}{b j}{c}{g base}{e}{c'}{g' b'}{e'}(hj:h.get j=some (.cells c' g' b' e'))(hg:g'≠g)(hb:j≠b) :
  (h.vR b c g base e).get j=some (.cells c' g' b' e'):=by
 simp[aj.vR,bM hb,hj,bM hg]
theorem xF {h:aj}{b j}{c}{g base}{e}{k}(hj:(h.vR b c g base e).get j=some k):(j=b/\k=.cells c g base e)\/(j≠b/\h.get j=some k):=by
 unfold aj.vR at hj;simp at hj;by_cases hb:j=b
 .simp_all
 grind [bM]
theorem WF.vR {h}(hw:WF h){b}{c c0}{g base base0}{e e0}(hb:h.get b=some (.cells c0 g base0 e0)):WF (h.vR b c g base e):=by
 have hlt:b<h.next:=by
  by_cases hx:b<h.next
  .exact hx
  .rw[hw.get b (by omega)] at hb;cases hb
 refine⟨λj hj=>?_,hw.used,λj c' g' b' e' hj=>?_,hw.maps⟩
 .have h0:=hw.get j hj;have hj:h.next<=j:=hj
  cases hq:(h.vR b c g base e).get j with
  |none=>rfl
  |some k=>
   rcases xF hq with⟨h1,_⟩|⟨_,h1⟩
   .omega
   grind
 .rcases xF hj with⟨_,h1⟩|⟨_,h1⟩
  .cases h1;exact hw.iL _ _ _ _ _ hb
  .exact hw.iL _ _ _ _ _ h1
theorem Fr.vR {h}(hw:WF h){b}{c c0}{g base base0}{e e0}(h0:g≠0)(hb:h.get b=some (.cells c0 g base0 e0)):Fr (·=g) h (h.vR b c g base e):=by
 refine⟨hw.vR hb,aa2 _,?_,λ_ _ _=>rfl,λ_ _=>rfl,?_,λ_ _ e _=>e⟩
 .intro j c' g' b' e' hj hg;have hg:g'≠g:=λe1=>h0 (by rw[<-e1];exact hg e1);refine Qt hj hg λhjb=>?_
  grind
 .intro j hj hn;cases hq:(h.vR b c g base e).get j with
  |none=>rfl
  |some k=>
   rcases xF hq with⟨h1,_⟩|⟨_,h1⟩
   .grind
   grind
def lM {h:aj}{nm nx}{e}{cs}:(h.dh nm nx e cs).get nm=some (.cells cs (nm+1) 0 e):=by
 simp[aj.dh,j6]
theorem iD {h:aj}{nm nx j}{e}{cs}(hj:j≠nm):(h.dh nm nx e cs).get j=h.get j:=by
 simp[aj.dh,bM hj]
def xG {h:aj}{nm nx}{e}{cs}:(h.dh nm nx e cs).oz (nm+1)=cs.length:=by
 simp[aj.dh,j6]
def AE {h:aj}{nm nx g}{e}{cs}(hg:g≠nm+1):(h.dh nm nx e cs).oz g=h.oz g:=by
 simp[aj.dh,bM hg]
def WF.dh {h}(hw:WF h){nm nx}(h1:nm<nx)(h2:h.next<=nx){e}{cs}:WF (h.dh nm nx e cs):=by
 refine⟨λj hj=>?_,λj hj=>?_,λj c g b e' hj=>?_,λj hj=>hw.maps j (cu hj).2⟩
 .have hj:nx<=j:=hj;rw[iD (by omega)];exact hw.get j (by omega)
 .have hj:nx<=j:=hj;simp[aj.dh,bM (show j≠nm by omega)];exact hw.used j (by omega)
 .by_cases hn:j=nm
  .subst hn;rw[lM] at hj;cases hj;exact h1
  .rw[iD hn] at hj;exact abK (hw.iL _ _ _ _ _ hj) h2
theorem WF.new {h}(hw:WF h){e}{cs}:WF (h.new e cs):=hw.dh (agS _) (alp _)
theorem Fr.new {h}(hw:WF h){e}{cs}:Fr (λ_=>False) h (h.new e cs):=by
 refine⟨hw.new,alp _,?_,?_,?_,?_,λ_ _ e _=>e⟩
 .intro j c g b e' hj _;rw[aj.new,iD]
  .exact hj
  .intro hn;subst hn;rw[hw.get _ (aa2 _)] at hj;cases hj
 .intro g hg _;exact AE (by omega)
 .intro j hj;simp[aj.new,aj.dh,bM (show j≠h.next by omega)]
 grind [aj.new,aj.new,iD]
def WF.eA {h}(hw:WF h){n}:WF { h with next:=h.next+n }:=
 ⟨λj hj=>hw.get j (by simp at hj;omega),λj hj=>hw.used j (by simp at hj;omega),λj c g b e hj=>abK (hw.iL j c g b e hj) (by simp),λj hj=>hw.maps j hj⟩
def Fr.eA {h}(hw:WF h){n}:Fr (λ_=>False) h { h with next:=h.next+n }:=
 ⟨hw.eA,by simp,λ_ _ _ _ _ e _=>e,λ_ _ _=>rfl,λ_ _=>rfl,λ_ _ e=>e,λ_ _ e _=>e⟩
theorem Fr.dh {X}{h0 h}(hw:WF h0)(a:Fr X h0 h){k}(hk:h0.next<=k)(hk2:k<h.next){e}{cs}:Fr X h0 (h.dh k h.next e cs):=by
 refine⟨a.wf.dh hk2 (aa2 _),a.next,?_,?_,?_,?_,λj x hj hx=>a.maps j x hj hx⟩
 .intro j c g b e' hj hg;have:=a.cells j c g b e' hj hg;by_cases hn:j=k
  .subst hn;rw[hw.get j hk] at hj;cases hj
  grind [iD]
 .intro g hg hx;rw[AE (by omega)];exact a.oz g hg hx
 .intro j hj;have:j≠k:=by omega
  simp[aj.dh,bM this];exact a.used j hj
 .intro j hj hn;rw[iD (by omega)];exact a.none j hj hn
def uU (h:aj)(s:Sl)(sz:Nat)(e:μ)(cs:δ)(g:Nat):Prop:=
 cs.length=s.len*sz/\((s=⟨none,0,0⟩/\g=0)\/(0<g/\g<=h.next/\(s.cap=0\/s.cap=s.len+1)/\∃b base,s.a=some ⟨b,0,none⟩/\h.get b=some (.cells cs g base e)/\h.oz g=base+cs.length))
def uU.nil {h}{sz}{e}:uU h ⟨none,0,0⟩ sz e [] 0:=⟨by simp,.inl ⟨rfl,rfl⟩⟩
def uU.fr {h h'}{s}{sz}{e}{cs}{g}{X}(o:uU h s sz e cs g)(f:Fr X h h')(hg:X g->g=0):uU h' s sz e cs g:=by
 obtain⟨h1,h2⟩:=o;refine⟨h1,?_⟩;rcases h2 with h2|⟨h2,h3,h4,b,base,h5,h6,h7⟩
 .exact .inl h2
 .exact .inr ⟨h2,abK h3 f.next,h4,b,base,h5,f.cells _ _ _ _ _ h6 hg,by rw[f.oz g h3 hg];exact h7⟩
theorem uU.au {h}{s}{sz}{e}{cs}{g}(o:uU h s sz e cs g)(hn:s.len≠0) :
  ∃b base,s.a=some ⟨b,0,none⟩/\h.get b=some (.cells cs g base e)/\g≠0:=by
 obtain⟨_,h2⟩:=o
 grind
theorem uU.le {h}{s}{sz}{e}{cs}{g}(o:uU h s sz e cs g):g<=h.next:=by
 obtain⟨_,h2⟩:=o
 grind
theorem uU.read {h}{s}{sz}{e}{cs}{g}(o:uU h s sz e cs g):aW h s.a (s.len*sz)=some cs:=by
 obtain⟨h1,h2⟩:=o
 grind [aW]
theorem uU.app {h}{s}{sz}{e}{cs new}{g n}{st}{Q}(o:uU h s sz e cs g)(hw:WF h)(hn:n≠0)(hl:new.length=n*sz)(hb:s.len+n<=cP)
  (hq:∀s' h' g',s'.len=s.len+n->s'.cap=0->uU h' s' sz e (cs++new) g'->(g'=g/\g≠0\/g'=h.next+1)->Fr (·=g) h h'->Q s' h'):Wp (Ago.app st s sz e n new) h Q:=by
 obtain⟨h1,h2⟩:=o;have hnx:=hw.get h.next (aa2 _)
 have key:Ago.app st s sz e n new h=vr st s sz e n new h:=by unfold Ago.app;simp[hnx]
 suffices hh:∃s' h' ,vr st s sz e n new h=some (s',h')/\Q s' h' by
  obtain⟨s',h',e1,e2⟩:=hh;exact⟨s',h',by rw[key];exact e1,e2⟩
 have fresh:uU (h.new e (cs++new)) ⟨some ⟨h.next,0,none⟩,s.len+n,0⟩ sz e (cs++new) (h.next+1):=
  ⟨by grind,.inr ⟨by omega,by simp[aj.new,aj.dh],.inl rfl,h.next,0,rfl,lM,by rw[aj.new,xG];simp⟩⟩
 have ffr:Fr (·=g) h (h.new e (cs++new)):=(Fr.new hw).mono hw (λ_ hx _=>hx.elim)
 rcases h2 with⟨rfl,rfl⟩|⟨h2,h3,h4,b,base,h5,h6,h7⟩
 .have hc:cs=[]:=aeE (by simpa using h1);subst hc;refine⟨_,_,?_,hq _ _ _ rfl rfl fresh (.inr rfl) ffr⟩;unfold vr
  grind
 .have hcells:aW h (some ⟨b,0,none⟩) (s.len*sz)=some cs:=by grind [aW]
  rcases h4 with h4|h4
  ·-- in the same group
   refine⟨⟨some ⟨h.next,0,none⟩,s.len+n,0⟩,{ h with get:=λj=>cond (Nat.beq j h.next) (some (.cells (cs++new) g (base+0) e)) (h.get j),next:=h.next+1,oz:=λg'=>cond (Nat.beq g' g) (base+0+s.len*sz+new.length) (h.oz g'),used:=λj=>cond (Nat.beq j h.next) true (h.used j) },?_,hq _ _ g rfl rfl ?_ (.inl ⟨rfl,by omega⟩) ?_⟩
   .unfold vr
    grind [yH]
   .refine⟨by grind,.inr ⟨h2,by simp;omega,.inl rfl,h.next,base+0,rfl,by simp[j6],?_⟩⟩
    grind [j6]
   .refine⟨⟨λj hj=>?_,λj hj=>?_,λj c g' b' e' hj=>?_,λj hj=>hw.maps j (cu hj).2⟩,alp _,?_,?_,?_,?_,λ_ _ e _=>e⟩
    .simp at hj;simp[bM (show j≠h.next by omega)];exact hw.get j (by omega)
    .simp at hj;simp[bM (show j≠h.next by omega)];exact hw.used j (by omega)
    .simp only at hj;by_cases hjn:j=h.next
     .grind
     .simp[bM hjn] at hj;have:=hw.iL _ _ _ _ _ hj;simp;omega
    .grind [bM]
    .grind [bM]
    .grind [bM]
    grind [bM]
  .refine⟨_,_,?_,hq _ _ _ rfl rfl fresh (.inr rfl) ffr⟩;unfold vr
   grind
theorem oU {enc:α->δ}{sz}(he:∀x,(enc x).length=sz):∀(L:List α),(L.flatMap enc).length=L.length*sz
 |[]=>by simp
 |x::L=>by rw[adr,abO,he,oU he L,abv,af3,am1,anU]
theorem Kc {enc:α->δ}{sz}(he:∀x,(enc x).length=sz):∀(L:List α) i ,(L.flatMap enc).drop (i*sz)=(L.drop i).flatMap enc
 |L,0=>by simp
 |[],i+1=>by simp
 |x::L,i+1=>by
  rw[adr,List.drop_succ_cons,<-Kc he L i,af3,am1,anU,<-amd]
  grind
theorem UC {enc:α->δ}{sz}(he:∀x,(enc x).length=sz){L:List α}{i}{x}(hi:L[i]?=some x):((L.flatMap enc).drop (i*sz)).take sz=enc x:=by
 grind [Kc,List.getElem?_eq_some_iff,List.drop_eq_getElem_cons,List.take_left]
theorem Oe {enc}{sz}(he:∀x,(enc x).length=sz){L:List α}{i}{x x'}(hi:L[i]?=some x){o}{vs}(ho:o+vs.length<=sz)(hx:enc x'=aU (enc x) o vs) :
  aU (L.flatMap enc) (i*sz+o) vs=(L.set i x').flatMap enc:=by
 have hlt:=(List.getElem?_eq_some_iff.1 hi).1;have hL:L=L.take i++x::L.drop (i+1):=by
  grind [List.drop_eq_getElem_cons,List.getElem?_eq_some_iff,List.take_append_drop]
 have hs:L.set i x'=L.take i++x'::L.drop (i+1):=by grind
 have hl:((L.take i).flatMap enc).length=i*sz:=by grind [oU,List.length_take,Nat.min_eq_left,Nat.le_of_lt]
 rw[hs,amj,adr,hx]
 conv=>lhs;rw[hL]
 rw[amj,adr];unfold aU;rw[<-hl,List.take_length_add_append,amZ,List.drop_length_add_append,List.take_append_of_le_length (by rw[he];omega),List.drop_append_of_le_length (by rw[he];omega)];simp
structure LB (h:aj) (b:Nat) (cs:δ) (e:μ):Prop where
 get:h.get b=some (.cells cs (b+1) 0 e)
theorem LB.new {h:aj}{e}{cs}:LB (h.new e cs) h.next cs e:=⟨lM⟩
def LB.fr {h h'}{b}{cs}{e}{X}(l:LB h b cs e)(f:Fr X h h')(hx:¬X (b+1)):LB h' b cs e:=⟨f.cells _ _ _ _ _ l.get λhm=>absurd hm hx⟩
def LB.lt {h}{b}{cs}{e}(l:LB h b cs e)(hw:WF h):b<h.next:=by
 have:=hw.iL _ _ _ _ _ l.get;omega
def LB.st {h}{b o}{cs vs}{e}(l:LB h b cs e)(hw:WF h)(ho:o+vs.length<=cs.length)(hv:vs.all fC=true){Q}
  (hq:∀h',LB h' b (aU cs o vs) e->Fr (·=b+1) h h'->Q () h'):Wp (rE ⟨b,o,none⟩ vs) h Q:=by
 rw[agK];exact⟨cs,b+1,0,e,l.get,by omega,ho,hv,hq _ ⟨LA⟩ (Fr.vR hw (by omega) l.get)⟩
def LB.ld {h}{b o}{cs}{e}(l:LB h b cs e){lf}{v}{x}(hv:cs[o]?=some v)(hx:Cv lf v=some x):h.ld lf b o=some x:=by
 unfold aj.ld;rw[l.get];simp[hv];exact hx
theorem LB.fH {h}{b o}{cs}{e}(l:LB h b cs e){ls}{x}(hl:o+ls.length<=cs.length)(hx:Cw ls ((cs.drop o).take ls.length)=some x):h.fH ls b o=some x:=by
 unfold aj.fH;rw[l.get];grind
def Fr.fresh {X Y}{h0 h h'}(hw:WF h0)(a:Fr X h0 h)(b:Fr Y h h')(hg:∀g,Y g->X g\/h0.next<g):Fr X h0 h':=a.trans hw b λg hy _=>hg g hy
theorem Qu {e}{z}{l c:Int}{h}{Q}(h1:0<=l)(h2:l<=c)(h3:c<=cP)(q:Q ⟨some ⟨h.next,0,none⟩,l.toNat,c.toNat+1⟩ (h.new e (List.replicate c.toNat z).flatten))(hz:z.all fC=true:=by rfl):Wp (Ap none e z l c) h Q:=by
 have hs:(List.replicate c.toNat z).flatten.all fC=true:=by
  grind
 exact⟨_,_,by unfold Ap iB;grind,q⟩
theorem XY {k}{e}{z}{l c:Int}{h}{Q}(h1:0<=l)(h2:l<=c)(h3:c<=cP)(k1:h.used k=false)(k2:k<h.next)(k3:h.get k=none)
  (q:Q ⟨some ⟨k,0,none⟩,l.toNat,c.toNat+1⟩ (h.dh k h.next e (List.replicate c.toNat z).flatten)) (hz:z.all fC=true:=by rfl):Wp (Ap (some k) e z l c) h Q:=by
 have hs:(List.replicate c.toNat z).flatten.all fC=true:=by
  grind
 exact⟨_,_,by unfold Ap iB;grind,q⟩
theorem EY {s}{lo hi:Int}{e}{z}{h}{Q}(h1:0<=lo)(h2:lo<=hi)(h3:hi<=s.len)(h4:qh h s e=true)
  (q:Q ⟨s.a.map (·.plus (lo.toNat*z)),hi.toNat-lo.toNat,s.cap-(if s.cap=0 then 0 else lo.toNat)⟩ h):Wp (mY s lo hi e z) h Q:=
 ⟨_,_,by unfold mY;grind,q⟩
theorem CN {m:M α}{as}{h}{Q}(hm:Wp m h λx h'=>(∀a,some a∈as->h'.get a.block=h.get a.block)/\Q x h'):Wp (uC as m) h Q:=by
 obtain⟨x,h',e,hs,q⟩:=hm;refine⟨x,h',?_,q⟩;have:sameAt h h' as=true:=by
  clear e q
  induction as with
  |nil=>rfl
  |cons a r ih=>
   have ih:=ih λa ha=>hs a (BY _ ha);cases a with
   |none=>exact ih
   |some b=>
    have hb:=hs b (by simp);unfold sameAt;cases aeO h h' b with
    |isTrue _=>exact ih
    |isFalse hn=>exact absurd (gW.of hb) hn
 grind [uC]
theorem lg {cs}{x}{c}{h}{Q}(hx:xX cs (KZ x)=some c)(q:Q c h):Wp (qq cs x) h Q:=
 ⟨c,h,by unfold qq;rw[hx],q⟩
theorem agM {k k'}(h:PZ k k'=true):k=k':=by cases k<;>cases k'<;>simp_all[PZ,RM]
theorem iI {a b}(h:mQ a b=true):a=b:=by
 rw[qI] at h;have h:=beq_iff_eq.1 h;rw[ByteArray.toList_eq,ByteArray.toList_eq] at h;cases a;simp_all
theorem Sf {v u}(h:DN v u=true):v=u:=by
 cases v<;>cases u<;>simp only[DN,abi,abD] at h<;>try cases h
 .grind
 .grind [agM]
 .rw[iI h]
theorem Si:∀{xs ys},Aq xs ys=true->xs=ys
 |[],[],_=>rfl
 |[],_::_,h=>by cases h
 |_::_,[],h=>by cases h
 |x::xs,y::ys,h=>by
  simp[Aq,abi] at h;rw[Sf h.1,Si h.2]
theorem Qv {x y}(h:Cm x y=true):x=y:=by
 unfold Cm at h
 grind [Array.toList_inj,Si,Sf]
theorem yV {k v k'}{c}:∀{es},Ar k' (rM k v c es)=if Cm k' k then some v else Ar k' es
 |[]=>by grind [rM,Ar,iG,Cm]
 |e::r=>by
  have ih:=yV (k:=k) (v:=v) (k':=k') (c:=c) (es:=r)
  grind [rM,Cm,Ar,iG,Qv]
theorem D8 {k v}{c}:∀{es},(rM k v c es).length=if (iG k es).isSome then es.length else es.length+1
 |[]=>rfl
 |e::r=>by
  have ih:=D8 (k:=k) (v:=v) (c:=c) (es:=r)
  grind [Cm,rM,iG,List.length_cons]
def wm (c:Nat):List Ge->Prop
 |[]=>True
 |e::r=>e.born<c/\(∀x∈r,x.born≠e.born)/\wm c r
def wm.mono {c c'}(hc:c<=c'):∀{es},wm c es->wm c' es
 |[],_=>trivial
 |e::r,h=>⟨alg h.1 hc,h.2.1,wm.mono hc h.2.2⟩
theorem Kd {k v}{c}:∀{es},∀x∈rM k v c es,(∃y∈es,x.born=y.born)\/x.born=c
 |[]=>by simp[rM]
 |e::r=>by
  intro x hx;simp[rM] at hx;split at hx
  .grind
  .rcases List.mem_cons.1 hx with rfl|hx
   .grind
   .rcases Kd x hx with⟨y,h1,h2⟩|h1
    .grind
    .exact .inr h1
theorem wm.put {k v}{c c'}(hc:c<=c'):∀{es},wm c es->(iG k es=none->c<c')->wm c' (rM k v c es)
 |[],_,h=>⟨h rfl,by simp,trivial⟩
 |e::r,hs,h=>by
  simp[rM];simp[iG] at h;cases hq:Cm k e.key
  .rw[hq] at h;refine⟨alg hs.1 hc,λx hx=>?_,wm.put hc hs.2.2 h⟩;rcases Kd x hx with⟨y,h1,h2⟩|h1
   .rw[h2];exact hs.2.1 y h1
   .rw[h1];have:=hs.1;omega
  .exact⟨alg hs.1 hc,hs.2.1,hs.2.2.mono hc⟩
structure MB (h:aj) (m:Nat) (kt:μ) (f:ο->Option ο) (n:Nat):Prop where
 ex:∃c es,h.jW m=some ⟨kt,c,es⟩/\wm c es/\(∀k,Ar k es=f k)/\es.length=n
def MB.lt {h}{m}{kt}{f}{n}(l:MB h m kt f n)(hw:WF h):m<h.next:=by
 obtain⟨c,es,h1,_⟩:=l.ex;exact hw.mlt h1
def MB.fr {h h'}{m}{kt}{f}{n}{X}(l:MB h m kt f n)(fr:Fr X h h')(hx:¬X (m+1)):MB h' m kt f n:=by
 obtain⟨c,es,h1,h2⟩:=l.ex;exact⟨c,es,fr.maps _ _ h1 hx,h2⟩
def HW {h:aj}{m}{kt}{c}{es}(hm:h.jW m=some ⟨kt,c,es⟩):h.DP kt m=some (c,es):=by
 unfold aj.DP;rw[hm];simp[j6]
theorem XZ {kt}{h}(hw:WF h){Q}(hq:∀h',MB h' h.next kt (λ_=>none) 0->Fr (λ_=>False) h h'->Q h.next h'):Wp (DO kt) h Q:=by
 refine⟨_,_,rfl,hq _ ⟨0,[],by simp[aj.oQ,j6],trivial,λ_=>rfl,rfl⟩ ⟨⟨λj hj=>?_,λj hj=>?_,λj c g b e hj=>?_,λj hj=>?_⟩,alp _,λ_ _ _ _ _ e _=>e,λ_ _ _=>rfl,λj hj=>?_,λ_ _ e=>e,λj x hj _=>?_⟩⟩
 .exact hw.get j (by simp at hj;omega)
 .simp at hj;simp[bM (show j≠h.next by omega)];exact hw.used j (by omega)
 .exact abK (hw.iL j c g b e hj) (by simp)
 .simp[aj.oQ,bM (cu hj).1];exact hw.maps j (cu hj).2
 .grind [bM]
 .have:=hw.mlt hj;simp[aj.oQ,bM (show j≠h.next by omega)];exact hj
theorem Fr.oQ {h}(hw:WF h){m}{x y}(hm:h.jW m=some y):Fr (·=m+1) h (h.oQ m x):=by
 refine⟨⟨hw.get,hw.used,hw.iL,λj hj=>?_⟩,aa2 _,λ_ _ _ _ _ e _=>e,λ_ _ _=>rfl,λ_ _=>rfl,λ_ _ e=>e,λj x hj hx=>?_⟩
 .have hj:h.used j=false:=hj;have hn:=hw.maps j hj;simp[aj.oQ,bM (show j≠m from λe=>by grind)];exact hn
 grind [aj.oQ,bM]
theorem MB.amx {h}{m}{kt}{f}{n}(l:MB h m kt f n){T}{z}{k}{Q}
  (h1:∀v,f k=some v->∃x,M4 T v=some x/\Q (true,x) h) (h2:f k=none->Q (false,z) h):Wp (zJ kt T z (some m) k) h Q:=by
 obtain⟨c,es,e1,_,e2,_⟩:=l.ex;unfold Wp zJ;simp only[HW e1,e2]
 grind
def zW (f:ο->Option ο)(k v:ο):ο->Option ο:=λk'=>if Cm k' k then some v else f k'
theorem MB.amy {h}{m}{kt}{f}{n}(l:MB h m kt f n)(hw:WF h){k v}{Q}
  (hq:∀h',MB h' m kt (zW f k v) (if (f k).isSome then n else n+1)->Fr (·=m+1) h h'->Q () h'):Wp (FM kt (some m) k v) h Q:=by
 have hlt:=l.lt hw;obtain⟨c,es,e1,e3,e2,e4⟩:=l.ex;unfold Wp FM;simp only[HW e1];have hk:(iG k es).isSome=(f k).isSome:=by grind [Ar,iG]
 refine⟨(),h.oQ m ⟨kt,(match iG k es with|some _=>c|none=>c+1),rM k v c es⟩,rfl,hq _ ⟨_,_,by simp[aj.oQ,j6];exact⟨rfl,rfl⟩,?_,λk'=>?_,?_⟩ (Fr.oQ hw e1)⟩
 .cases hm:iG k es with
  |none=>exact e3.put (alp _) λ_=>agS _
  |some x=>exact e3.put (aa2 _) λhn=>by rw[hm] at hn;cases hn
 .rw[yV,e2];rfl
 .rw[D8,hk,e4]
theorem MB.len {h}{m}{kt}{f}{n}(l:MB h m kt f n){Q}(q:Q n h):Wp (M6 (some m)) h Q:=by
 obtain⟨c,es,e1,_,_,e4⟩:=l.ex;exact⟨n,h,by grind [M6],q⟩
def D9 (h:aj)(m:Nat)(k:ο)(st:Nat):Prop:=∃x,h.jW m=some x/\∃e,iG k x.es=some e/\e.born=st
def D9.fr {h h'}{m}{k}{st}{X}(l:D9 h m k st)(fr:Fr X h h')(hx:¬X (m+1)):D9 h' m k st:=by
 obtain⟨x,h1,h2⟩:=l;exact⟨x,fr.maps _ _ h1 hx,h2⟩
def HX {k v}{c}(hk:Cm k k=true):∀{es},iG k es=none->iG k (rM k v c es)=some ⟨k,v,c⟩
 |[],_=>by simp[rM,iG,hk]
 |e::r,h=>by
  simp[iG] at h;simp[rM];cases hq:Cm k e.key
  .rw[hq] at h;simp[iG,hq];exact HX hk h
  .rw[hq] at h;cases h
theorem MB.entry {h}{m}{kt}{f}{n}(l:MB h m kt f n)(hw:WF h){T}{z}{k}(hk:Cm k k=true){Q}
  (h1:∀v,f k=some v->∃x,M4 T v=some x/\∀st,D9 h m k st->Q (x,st) h)
  (h2:f k=none->∀h' st,MB h' m kt (zW f k (EG T z)) (n+1)->D9 h' m k st->Fr (·=m+1) h h'->Q (z,st) h'):Wp (yI kt T z (some m) k) h Q:=by
 have hlt:=l.lt hw;obtain⟨c,es,e1,e3,e2,e4⟩:=l.ex;unfold Wp yI;simp only[HW e1];cases hm:iG k es with
 |none=>
  have hf:f k=none:=by grind [Ar]
  refine⟨_,_,rfl,h2 hf _ _ ⟨c+1,rM k (EG T z) c es,by simp[aj.oQ,j6],e3.put (alp _) λ_=>agS _,λk'=>?_,?_⟩ ⟨⟨kt,c+1,rM k (EG T z) c es⟩,by simp[aj.oQ,j6],⟨k,EG T z,c⟩,HX hk hm,rfl⟩ (Fr.oQ hw e1)⟩
  .rw[yV,e2];rfl
  grind [D8]
 |some e=>
  have hf:f k=some e.val:=by grind [Ar]
  obtain⟨x,hx,q⟩:=h1 _ hf;simp only[hx];exact⟨_,_,rfl,q _ ⟨_,e1,e,hm,rfl⟩⟩
theorem HY {k v}{c}:∀{es} {e},wm c es->iG k es=some e->JR e.born v es=some (rM k v c es)
 |[],e,_,h=>by cases h
 |x::r,e,hs,h=>by
  simp[iG] at h;simp[JR,rM];cases hq:Cm k x.key
  .rw[hq] at h;have hmem:∀{es:List Ge},iG k es=some e->e∈es:=by
    intro es
    induction es with
    |nil=>intro h;cases h
    |cons y r ih=>
     grind [iG,List.mem_cons_of_mem]
   have hne:=hs.2.1 e (hmem h);rw[bM (λe2=>hne e2.symm)];simp;rw[HY hs.2.2 h]
  grind [j6,Qv]
theorem MB.store {h}{m}{kt}{f}{n}(l:MB h m kt f n)(hw:WF h){k v}{st}(hs:D9 h m k st){Q}
  (hq:∀h',MB h' m kt (zW f k v) n->Fr (·=m+1) h h'->Q () h'):Wp (yJ (some m) (st:Int) v) h Q:=by
 have hlt:=l.lt hw;obtain⟨c,es,e1,e3,e2,e4⟩:=l.ex;obtain⟨x,h1,e,h2,rfl⟩:=hs;rw[e1] at h1;cases h1;have hp:=HY (v:=v) e3 h2;have hd:decide (0<=((e.born:Nat):Int))=true:=by simp
 unfold Wp yJ;simp only[e1,hd,OF,hp];refine⟨(),h.oQ m ⟨kt,c,rM k v c es⟩,rfl,hq _ ⟨c,rM k v c es,by simp[aj.oQ,j6],e3.put (aa2 _) (λhn=>by grind),λk'=>?_,?_⟩ (Fr.oQ hw e1)⟩
 .rw[yV,e2];rfl
 grind [D8]
end Go.Ago
