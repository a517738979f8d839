
import Derived.Test.YtdbjhobkhjneeaaGreatDoorAgoI
set_option linter.all false
namespace Go.Ago
open Go
variable {α β:Type}
def Wp (m:M α)(h:aj)(Q:α->aj->Prop):Prop:=∃x h',m h=some (x,h')/\Q x h'
def Wp.mono {m:M α}{h}{Q Q'}(hm:Wp m h Q)(hq:∀x h',Q x h'->Q' x h'):Wp m h Q':=by
 obtain⟨x,h',e,q⟩:=hm;exact⟨x,h',e,hq _ _ q⟩
theorem ag {m}{f:α->M β}{h}{Q}:Wp (sh m f) h Q↔Wp m h λx h'=>Wp (f x) h' Q:=by
 constructor
 .rintro⟨y,h2,e,q⟩;unfold sh at e;split at e
  .rename_i x h1 hm;exact⟨x,h1,hm,y,h2,e,q⟩
  .cases e
 .rintro⟨x,h1,hm,y,h2,e,q⟩;exact⟨y,h2,by unfold sh;rw[hm];exact e,q⟩
def Wp.seq {m}{f:α->M β}{h}{R}{Q}(hm:Wp m h R)(hf:∀x h',R x h'->Wp (f x) h' Q):Wp (sh m f) h Q:=ag.2 (hm.mono hf)
def af {x:α}{h}{Q}:Wp (AI x) h Q↔Q x h:=
 ⟨λ⟨_,_,e,q⟩=>by cases e;exact q,λq=>⟨x,h,rfl,q⟩⟩
def akI {p}{h}{Q}:Wp (nn p) h Q↔∃a,p=some a/\Q a h:=by
 constructor
 .rintro⟨x,h',e,q⟩;cases p<;>simp[nn] at e
  grind
 .rintro⟨a,rfl,q⟩;exact⟨a,h,rfl,q⟩
def qP {a}{h}{Q}:Wp (nn (some a)) h Q↔Q a h:=by simp[akI]
def ER {c}[Decidable c]{a b:M α}{h}{Q}:Wp (if c then a else b) h Q↔(c->Wp a h Q)/\(¬c->Wp b h Q):=by
 grind
def P6 {b}{h}{Q}:Wp (pB b) h Q↔b=true/\Q () h:=by
 constructor
 .rintro⟨x,h',e,q⟩;cases b<;>simp[pB] at e;grind
 .rintro⟨rfl,q⟩;exact⟨(),h,rfl,q⟩
def aj.ld (h:aj)(l:uN)(b o:Nat):Option l.den:=
 match h.get b with
 |some (.cells c _ _ _)=>(match c[o]? with|some v=>Cq l v|none=>none)
 |_=>none
def xz {l}{a}{h}{Q}:Wp (e9 l a) h Q↔∃x,h.ld l a.block a.off=some x/\Q x h:=by
 have key:e9 l a h=(match h.ld l a.block a.off with|some x=>some (x,h)|none=>none):=by
  unfold e9 aj.cell aj.ld
  grind
 constructor
 .rintro⟨x,h',e,q⟩
  grind
 .rintro⟨x,hx,q⟩;exact⟨x,h,by rw[key,hx],q⟩
def aj.ldI (h:aj)(k:IntKind)(b o:Nat):Option Int:=h.ld (.int k) b o
def aj.ldB (h:aj)(b o:Nat):Option Bool:=h.ld .bool b o
def aj.I5 (h:aj)(b o:Nat):Option ζ:=h.ld .str b o
def aj.ldV (h:aj)(b o:Nat):Option Sl:=h.ld .sl b o
def rK {k}{a}{h}{Q}:Wp (α:=Int) (e9 (.int k) a) h Q↔∃x,h.ldI k a.block a.off=some x/\Q x h:=xz
def rL {a}{h}{Q}:Wp (α:=Bool) (e9 .bool a) h Q↔∃x,h.ldB a.block a.off=some x/\Q x h:=xz
def rM {a}{h}{Q}:Wp (α:=ζ) (e9 .str a) h Q↔∃x,h.I5 a.block a.off=some x/\Q x h:=xz
def rN {a}{h}{Q}:Wp (α:=Sl) (e9 .sl a) h Q↔∃x,h.ldV a.block a.off=some x/\Q x h:=xz
def aj.fI (h:aj) ls (b o:Nat):Option (eC ls):=
 match h.get b with
 |some (.cells c _ _ _)=>if o+ls.length<=c.length then Cr ls ((c.drop o).take ls.length) else none
 |_=>none
def DZ {ls}{a}{h}{Q}:Wp (bY ls a) h Q↔∃x,h.fI ls a.block a.off=some x/\Q x h:=by
 have key:bY ls a h=(match h.fI ls a.block a.off with|some x=>some (x,h)|none=>none):=by
  unfold bY aX aj.fI
  grind
 constructor
 .rintro⟨x,h',e,q⟩
  grind
 .rintro⟨x,hx,q⟩;exact⟨x,h,by rw[key,hx],q⟩
def agw {a}{vs}{h}{Q} :
  Wp (sU a vs) h Q↔∃c g base e,h.get a.block=some (.cells c g base e)/\g≠0/\a.off+vs.length<=c.length/\vs.all fE=true/\Q () (h.vN a.block (aV c a.off vs) g base e):=by
 constructor
 .rintro⟨x,h',e,q⟩
  grind [sU]
 .rintro⟨c,g,b,el,hg,h1,h2,h3,q⟩;exact⟨(),_,by unfold sU;grind,q⟩
def CG {e}{cs}{h}{Q}:Wp (iR none e cs) h Q↔cs.all fE=true/\Q h.next (h.new e cs):=by
 constructor
 .rintro⟨x,h',he,q⟩
  grind [iR]
 .rintro⟨hc,q⟩;exact⟨_,_,by unfold iR;rw[By hc],q⟩
def NU {k}{e}{cs}{h}{Q} :
  Wp (iR (some k) e cs) h Q↔cs.all fE=true/\h.used k=false/\k<h.next/\h.get k=none/\Q k (h.di k h.next e cs):=by
 constructor
 .rintro⟨x,h',he,q⟩;unfold iR at he;split at he
  .rename_i hc;simp only at he;split at he
   .rename_i hd;cases he;simp_all
   .cases he
  .cases he
 .rintro⟨hc,h1,h2,h3,q⟩;exact⟨_,_,by unfold iR;grind,q⟩
def P7 {n}{h}{Q}:Wp (eE n) h Q↔Q h.next { h with next:=h.next+n }:=
 ⟨λ⟨_,_,e,q⟩=>by cases e;exact q,λq=>⟨_,_,rfl,q⟩⟩
def abX {l}{n:Nat}{cs}{i}{h}{v}{x}{Q}(h1:0<=i)(h2:i<(n:Int))(hv:cs[i.toNat]?=some v)(hx:Cq l v=some x)(q:Q x h):Wp (KG l n cs i) h Q:=
 ⟨x,h,by unfold KG;grind,q⟩
def fQ {s}{i}{h}{Q}:Wp (kF s i) h Q↔∃b,0<=i/\s[i.toNat]?=some b/\Q b h:=by
 constructor
 .rintro⟨x,h',e,q⟩
  grind [kF]
 .rintro⟨b,hi,hb,q⟩;exact⟨b,h,by unfold kF;rw[By hi,hb],q⟩
def gH {s}{lo hi}{h}{Q}:Wp (iE s lo hi) h Q↔0<=lo/\lo<=hi/\hi<=s.size/\Q (s.extract lo.toNat hi.toNat) h:=by
 constructor
 .rintro⟨x,h',e,q⟩
  grind [iE,Cs]
 .rintro⟨h1,h2,h3,q⟩;exact⟨_,h,by unfold iE;rw[By ⟨h1,h2,h3⟩,Cs],q⟩
def Bx {s}{i}{z}{h}{Q}:Wp (mT s i z) h Q↔∃a,s.a=some a/\0<=i/\i<s.len/\Q (a.plus (i.toNat*z)) h:=by
 constructor
 .rintro⟨x,h',e,q⟩
  grind [mT]
 .rintro⟨a,ha,h1,h2,q⟩;exact⟨_,h,by unfold mT;grind,q⟩
def Lk {x y}{h}{Q}:Wp (kK x y) h Q↔x.size+y.size<=cQ/\Q (x++y) h:=by
 constructor
 .rintro⟨z,h',e,q⟩
  grind [kK]
 .rintro⟨hc,q⟩;exact⟨_,h,by unfold kK;rw[By hc],q⟩
def agx {s}{z}{h}{Q}(q:(s.len=0/\Q [] h)\/∃cs,aX h s.a (s.len*z)=some cs/\Q cs h):Wp (MM s z) h Q:=by
 unfold Wp MM;rcases q with⟨e,q⟩|⟨cs,hc,q⟩
 .rw[e];exact⟨_,_,rfl,q⟩
 .by_cases e:s.len=0
  .rw[e];rw[e] at hc;refine⟨_,_,rfl,?_⟩;have:cs=[]:=by
    unfold aX at hc;split at hc
    .simp at hc;exact hc
    .split at hc
     .simp at hc;exact hc.2
     .cases hc
   rw[<-this];exact q
  .obtain⟨n,e⟩:=Nat.exists_eq_succ_of_ne_zero e;rw[e] at hc⊢;simp only[hc];exact⟨_,_,rfl,q⟩
def JV {v}{h}{Q}:Wp (kL v) h Q↔(v=.nilIface/\Q true h)\/(∃t u,v=.iface t u/\Q false h):=by
 constructor
 .rintro⟨x,h',e,q⟩;unfold kL at e
  grind
 .rintro (⟨rfl,q⟩|⟨t,u,rfl,q⟩)
  .exact⟨true,h,rfl,q⟩
  .exact⟨false,h,rfl,q⟩
structure WF (h:aj):Prop where
 get:∀j,h.next<=j->h.get j=none
 used:∀j,h.next<=j->h.used j=false
 iL:∀j c g b e,h.get j=some (.cells c g b e)->g<=h.next
 maps:∀j,h.used j=false->h.jW j=none
def cu {j n:Nat}{b}(h:cond (Nat.beq j n) true b=false):j≠n/\b=false:=by
 rw[bu] at h;grind
def WF.mlt {h}(hw:WF h){j}{x}(hx:h.jW j=some x):j<h.next:=by
 by_cases hj:j<h.next
 .exact hj
 .rw[hw.maps j (hw.used j (by omega))] at hx;cases hx
structure Fr (X:Nat->Prop) (h h':aj):Prop where
 wf:WF h'
 next:h.next<=h'.next
 cells:∀j c g b e,h.get j=some (.cells c g b e)->(X g->g=0)->h'.get j=some (.cells c g b e)
 ot:∀g,g<=h.next->(X g->g=0)->h'.ot g=h.ot g
 used:∀j,j<h.next->h'.used j=h.used j
 none:∀j,j<h.next->h.get j=none->h'.get j=none
 maps:∀j x,h.jW j=some x->¬X (j+1)->h'.jW j=some x
def Fr.refl {X}{h}(hw:WF h):Fr X h h:=⟨hw,aao _,λ_ _ _ _ _ e _=>e,λ_ _ _=>rfl,λ_ _=>rfl,λ_ _ e=>e,λ_ _ e _=>e⟩
theorem Fr.trans {X Y}{h h1 h2}(hw:WF h)(a:Fr X h h1)(b:Fr Y h1 h2)(hy:∀g,Y g->g≠0->X g\/h.next<g):Fr X h h2:=by
 refine⟨b.wf,abt a.next b.next,?_,?_,?_,?_,λj x hj hx=>?_⟩
 .intro j c g bs e hj hg;refine b.cells j c g bs e (a.cells j c g bs e hj hg) λhm=>?_;by_cases h0:g=0
  .exact h0
  .rcases hy g hm h0 with h3|h3
   .exact hg h3
   .have:=hw.iL j c g bs e hj;omega
 .intro g hg hx;have hx1:Y g->g=0:=λhm=>by
   grind
  rw[b.ot g (abt hg a.next) hx1,a.ot g hg hx]
 .intro j hj;rw[b.used j (aky hj a.next),a.used j hj]
 .intro j hj hn;exact b.none j (aky hj a.next) (a.none j hj hn)
 .have hlt:=hw.mlt hj;refine b.maps j x (a.maps j x hj hx) λhy2=>?_
  grind
def Fr.mono {X Y}{h h'}(hw:WF h)(a:Fr X h h')(hs:∀g,X g->g≠0->Y g\/h.next<g):Fr Y h h':=
 Fr.trans hw (Fr.refl hw) a hs
theorem j6 (j:Nat):Nat.beq j j=true:=akg j
theorem bO {i j:Nat}(h:i≠j):Nat.beq i j=false:=by
 grind [absurd,Nat.eq_of_beq_eq_true]
def Ll {h:aj}{b}{c}{g base}{e}:(h.vN b c g base e).get b=some (.cells c g base e):=by
 simp[aj.vN,j6]
def P8 {h:aj}{b j}{c}{g base}{e}{c'}{g' b'}{e'}(hj:h.get j=some (.cells c' g' b' e'))(hg:g'≠g)(hb:j≠b) :
  (h.vN b c g base e).get j=some (.cells c' g' b' e'):=by
 simp[aj.vN,bO hb,hj,bO hg]
def xA {h:aj}{b j}{c}{g base}{e}{k}(hj:(h.vN b c g base e).get j=some k):(j=b/\k=.cells c g base e)\/(j≠b/\h.get j=some k):=by
 unfold aj.vN at hj;simp at hj;by_cases hb:j=b
 .simp_all
 grind [bO]
def WF.vN {h}(hw:WF h){b}{c c0}{g base base0}{e e0}(hb:h.get b=some (.cells c0 g base0 e0)):WF (h.vN b c g base e):=by
 have hlt:b<h.next:=by
  by_cases hx:b<h.next
  .exact hx
  .rw[hw.get b (by omega)] at hb;cases hb
 refine⟨λj hj=>?_,hw.used,λj c' g' b' e' hj=>?_,hw.maps⟩
 .have h0:=hw.get j hj;have hj:h.next<=j:=hj
  cases hq:(h.vN b c g base e).get j with
  |none=>rfl
  |some k=>
   rcases xA hq with⟨h1,_⟩|⟨_,h1⟩
   .omega
   grind
 .rcases xA hj with⟨_,h1⟩|⟨_,h1⟩
  .cases h1;exact hw.iL _ _ _ _ _ hb
  .exact hw.iL _ _ _ _ _ h1
def Fr.vN {h}(hw:WF h){b}{c c0}{g base base0}{e e0}(h0:g≠0)(hb:h.get b=some (.cells c0 g base0 e0)):Fr (·=g) h (h.vN b c g base e):=by
 refine⟨hw.vN hb,aao _,?_,λ_ _ _=>rfl,λ_ _=>rfl,?_,λ_ _ e _=>e⟩
 .intro j c' g' b' e' hj hg;have hg:g'≠g:=λe1=>h0 (by rw[<-e1];exact hg e1);refine P8 hj hg λhjb=>?_
  grind
 .intro j hj hn;cases hq:(h.vN b c g base e).get j with
  |none=>rfl
  |some k=>
   rcases xA hq with⟨h1,_⟩|⟨_,h1⟩
   .grind
   grind
def lH {h:aj}{nm nx}{e}{cs}:(h.di nm nx e cs).get nm=some (.cells cs (nm+1) 0 e):=by
 simp[aj.di,j6]
theorem iC {h:aj}{nm nx j}{e}{cs}(hj:j≠nm):(h.di nm nx e cs).get j=h.get j:=by
 simp[aj.di,bO hj]
def xB {h:aj}{nm nx}{e}{cs}:(h.di nm nx e cs).ot (nm+1)=cs.length:=by
 simp[aj.di,j6]
def AB {h:aj}{nm nx g}{e}{cs}(hg:g≠nm+1):(h.di nm nx e cs).ot g=h.ot g:=by
 simp[aj.di,bO hg]
def WF.di {h}(hw:WF h){nm nx}(h1:nm<nx)(h2:h.next<=nx){e}{cs}:WF (h.di nm nx e cs):=by
 refine⟨λj hj=>?_,λj hj=>?_,λj c g b e' hj=>?_,λj hj=>hw.maps j (cu hj).2⟩
 .have hj:nx<=j:=hj;rw[iC (by omega)];exact hw.get j (by omega)
 .have hj:nx<=j:=hj;simp[aj.di,bO (show j≠nm by omega)];exact hw.used j (by omega)
 .by_cases hn:j=nm
  .subst hn;rw[lH] at hj;cases hj;exact h1
  .rw[iC hn] at hj;exact abt (hw.iL _ _ _ _ _ hj) h2
theorem WF.new {h}(hw:WF h){e}{cs}:WF (h.new e cs):=hw.di (af7 _) (ak2 _)
theorem Fr.new {h}(hw:WF h){e}{cs}:Fr (λ_=>False) h (h.new e cs):=by
 refine⟨hw.new,ak2 _,?_,?_,?_,?_,λ_ _ e _=>e⟩
 .intro j c g b e' hj _;rw[aj.new,iC]
  .exact hj
  .intro hn;subst hn;rw[hw.get _ (aao _)] at hj;cases hj
 .intro g hg _;exact AB (by omega)
 .intro j hj;simp[aj.new,aj.di,bO (show j≠h.next by omega)]
 grind [aj.new,aj.new,iC]
def WF.eE {h}(hw:WF h){n}:WF { h with next:=h.next+n }:=
 ⟨λj hj=>hw.get j (by simp at hj;omega),λj hj=>hw.used j (by simp at hj;omega),λj c g b e hj=>abt (hw.iL j c g b e hj) (by simp),λj hj=>hw.maps j hj⟩
def Fr.eE {h}(hw:WF h){n}:Fr (λ_=>False) h { h with next:=h.next+n }:=
 ⟨hw.eE,by simp,λ_ _ _ _ _ e _=>e,λ_ _ _=>rfl,λ_ _=>rfl,λ_ _ e=>e,λ_ _ e _=>e⟩
def Fr.di {X}{h0 h}(hw:WF h0)(a:Fr X h0 h){k}(hk:h0.next<=k)(hk2:k<h.next){e}{cs}:Fr X h0 (h.di k h.next e cs):=by
 refine⟨a.wf.di hk2 (aao _),a.next,?_,?_,?_,?_,λj x hj hx=>a.maps j x hj hx⟩
 .intro j c g b e' hj hg;have:=a.cells j c g b e' hj hg;by_cases hn:j=k
  .subst hn;rw[hw.get j hk] at hj;cases hj
  grind [iC]
 .intro g hg hx;rw[AB (by omega)];exact a.ot g hg hx
 .intro j hj;have:j≠k:=by omega
  simp[aj.di,bO this];exact a.used j hj
 .intro j hj hn;rw[iC (by omega)];exact a.none j hj hn
def uQ (h:aj)(s:Sl)(sz:Nat)(e:μ)(cs:δ)(g:Nat):Prop:=
 cs.length=s.len*sz/\((s=⟨none,0,0⟩/\g=0)\/(0<g/\g<=h.next/\(s.cap=0\/s.cap=s.len+1)/\∃b base,s.a=some ⟨b,0,none⟩/\h.get b=some (.cells cs g base e)/\h.ot g=base+cs.length))
def uQ.nil {h}{sz}{e}:uQ h ⟨none,0,0⟩ sz e [] 0:=⟨by simp,.inl ⟨rfl,rfl⟩⟩
def uQ.fr {h h'}{s}{sz}{e}{cs}{g}{X}(o:uQ h s sz e cs g)(f:Fr X h h')(hg:X g->g=0):uQ h' s sz e cs g:=by
 obtain⟨h1,h2⟩:=o;refine⟨h1,?_⟩;rcases h2 with h2|⟨h2,h3,h4,b,base,h5,h6,h7⟩
 .exact .inl h2
 .exact .inr ⟨h2,abt h3 f.next,h4,b,base,h5,f.cells _ _ _ _ _ h6 hg,by rw[f.ot g h3 hg];exact h7⟩
def uQ.ar {h}{s}{sz}{e}{cs}{g}(o:uQ h s sz e cs g)(hn:s.len≠0) :
  ∃b base,s.a=some ⟨b,0,none⟩/\h.get b=some (.cells cs g base e)/\g≠0:=by
 obtain⟨_,h2⟩:=o
 grind
def uQ.le {h}{s}{sz}{e}{cs}{g}(o:uQ h s sz e cs g):g<=h.next:=by
 obtain⟨_,h2⟩:=o
 grind
def uQ.read {h}{s}{sz}{e}{cs}{g}(o:uQ h s sz e cs g):aX h s.a (s.len*sz)=some cs:=by
 obtain⟨h1,h2⟩:=o
 grind [aX]
theorem uQ.app {h}{s}{sz}{e}{cs new}{g n}{st}{Q}(o:uQ h s sz e cs g)(hw:WF h)(hn:n≠0)(hl:new.length=n*sz)(hb:s.len+n<=cQ)
  (hq:∀s' h' g',s'.len=s.len+n->s'.cap=0->uQ h' s' sz e (cs++new) g'->(g'=g/\g≠0\/g'=h.next+1)->Fr (·=g) h h'->Q s' h'):Wp (Ago.app st s sz e n new) h Q:=by
 obtain⟨h1,h2⟩:=o;have hnx:=hw.get h.next (aao _)
 have key:Ago.app st s sz e n new h=vo st s sz e n new h:=by unfold Ago.app;simp[hnx]
 suffices hh:∃s' h' ,vo st s sz e n new h=some (s',h')/\Q s' h' by
  obtain⟨s',h',e1,e2⟩:=hh;exact⟨s',h',by rw[key];exact e1,e2⟩
 have fresh:uQ (h.new e (cs++new)) ⟨some ⟨h.next,0,none⟩,s.len+n,0⟩ sz e (cs++new) (h.next+1):=
  ⟨by grind,.inr ⟨by omega,by simp[aj.new,aj.di],.inl rfl,h.next,0,rfl,lH,by rw[aj.new,xB];simp⟩⟩
 have ffr:Fr (·=g) h (h.new e (cs++new)):=(Fr.new hw).mono hw (λ_ hx _=>hx.elim)
 rcases h2 with⟨rfl,rfl⟩|⟨h2,h3,h4,b,base,h5,h6,h7⟩
 .have hc:cs=[]:=adY (by simpa using h1);subst hc;refine⟨_,_,?_,hq _ _ _ rfl rfl fresh (.inr rfl) ffr⟩;unfold vo
  grind
 .have hcells:aX h (some ⟨b,0,none⟩) (s.len*sz)=some cs:=by grind [aX]
  rcases h4 with h4|h4
  ·-- in the same group
   refine⟨⟨some ⟨h.next,0,none⟩,s.len+n,0⟩,{ h with get:=λj=>cond (Nat.beq j h.next) (some (.cells (cs++new) g (base+0) e)) (h.get j),next:=h.next+1,ot:=λg'=>cond (Nat.beq g' g) (base+0+s.len*sz+new.length) (h.ot g'),used:=λj=>cond (Nat.beq j h.next) true (h.used j) },?_,hq _ _ g rfl rfl ?_ (.inl ⟨rfl,by omega⟩) ?_⟩
   .unfold vo
    grind [yD]
   .refine⟨by grind,.inr ⟨h2,by simp;omega,.inl rfl,h.next,base+0,rfl,by simp[j6],?_⟩⟩
    grind [j6]
   .refine⟨⟨λj hj=>?_,λj hj=>?_,λj c g' b' e' hj=>?_,λj hj=>hw.maps j (cu hj).2⟩,ak2 _,?_,?_,?_,?_,λ_ _ e _=>e⟩
    .simp at hj;simp[bO (show j≠h.next by omega)];exact hw.get j (by omega)
    .simp at hj;simp[bO (show j≠h.next by omega)];exact hw.used j (by omega)
    .simp only at hj;by_cases hjn:j=h.next
     .grind
     .simp[bO hjn] at hj;have:=hw.iL _ _ _ _ _ hj;simp;omega
    .grind [bO]
    .grind [bO]
    .grind [bO]
    grind [bO]
  .refine⟨_,_,?_,hq _ _ _ rfl rfl fresh (.inr rfl) ffr⟩;unfold vo
   grind
theorem oR {enc:α->δ}{sz}(he:∀x,(enc x).length=sz):∀(L:List α),(L.flatMap enc).length=L.length*sz
 |[]=>by simp
 |x::L=>by rw[abz,abw,he,oR he L,aaH,aeN,amI,anE]
theorem JW {enc:α->δ}{sz}(he:∀x,(enc x).length=sz):∀(L:List α) i ,(L.flatMap enc).drop (i*sz)=(L.drop i).flatMap enc
 |L,0=>by simp
 |[],i+1=>by simp
 |x::L,i+1=>by
  rw[abz,List.drop_succ_cons,<-JW he L i,aeN,amI,anE,<-alY]
  grind
theorem Ug {enc:α->δ}{sz}(he:∀x,(enc x).length=sz){L:List α}{i}{x}(hi:L[i]?=some x):((L.flatMap enc).drop (i*sz)).take sz=enc x:=by
 grind [JW,List.getElem?_eq_some_iff,List.drop_eq_getElem_cons,List.take_left]
def NV {enc}{sz}(he:∀x,(enc x).length=sz){L:List α}{i}{x x'}(hi:L[i]?=some x){o}{vs}(ho:o+vs.length<=sz)(hx:enc x'=aV (enc x) o vs) :
  aV (L.flatMap enc) (i*sz+o) vs=(L.set i x').flatMap enc:=by
 have hlt:=(List.getElem?_eq_some_iff.1 hi).1;have hL:L=L.take i++x::L.drop (i+1):=by
  grind [List.drop_eq_getElem_cons,List.getElem?_eq_some_iff,List.take_append_drop]
 have hs:L.set i x'=L.take i++x'::L.drop (i+1):=by grind
 have hl:((L.take i).flatMap enc).length=i*sz:=by grind [oR,List.length_take,Nat.min_eq_left,Nat.le_of_lt]
 rw[hs,al5,abz,hx]
 conv=>lhs;rw[hL]
 rw[al5,abz];unfold aV;rw[<-hl,List.take_length_add_append,amF,List.drop_length_add_append,List.take_append_of_le_length (by rw[he];omega),List.drop_append_of_le_length (by rw[he];omega)];simp
structure LB (h:aj) (b:Nat) (cs:δ) (e:μ):Prop where
 get:h.get b=some (.cells cs (b+1) 0 e)
theorem LB.new {h:aj}{e}{cs}:LB (h.new e cs) h.next cs e:=⟨lH⟩
def LB.fr {h h'}{b}{cs}{e}{X}(l:LB h b cs e)(f:Fr X h h')(hx:¬X (b+1)):LB h' b cs e:=⟨f.cells _ _ _ _ _ l.get λhm=>absurd hm hx⟩
def LB.lt {h}{b}{cs}{e}(l:LB h b cs e)(hw:WF h):b<h.next:=by
 have:=hw.iL _ _ _ _ _ l.get;omega
def LB.st {h}{b o}{cs vs}{e}(l:LB h b cs e)(hw:WF h)(ho:o+vs.length<=cs.length)(hv:vs.all fE=true){Q}
  (hq:∀h',LB h' b (aV cs o vs) e->Fr (·=b+1) h h'->Q () h'):Wp (sU ⟨b,o,none⟩ vs) h Q:=by
 rw[agw];exact⟨cs,b+1,0,e,l.get,by omega,ho,hv,hq _ ⟨Ll⟩ (Fr.vN hw (by omega) l.get)⟩
def LB.ld {h}{b o}{cs}{e}(l:LB h b cs e){lf}{v}{x}(hv:cs[o]?=some v)(hx:Cq lf v=some x):h.ld lf b o=some x:=by
 unfold aj.ld;rw[l.get];simp[hv];exact hx
def LB.fI {h}{b o}{cs}{e}(l:LB h b cs e){ls}{x}(hl:o+ls.length<=cs.length)(hx:Cr ls ((cs.drop o).take ls.length)=some x):h.fI ls b o=some x:=by
 unfold aj.fI;rw[l.get];grind
def Fr.fresh {X Y}{h0 h h'}(hw:WF h0)(a:Fr X h0 h)(b:Fr Y h h')(hg:∀g,Y g->X g\/h0.next<g):Fr X h0 h':=a.trans hw b λg hy _=>hg g hy
def P9 {e}{z}{l c:Int}{h}{Q}(h1:0<=l)(h2:l<=c)(h3:c<=cQ)(q:Q ⟨some ⟨h.next,0,none⟩,l.toNat,c.toNat+1⟩ (h.new e (List.replicate c.toNat z).flatten))(hz:z.all fE=true:=by rfl):Wp (An none e z l c) h Q:=by
 have hs:(List.replicate c.toNat z).flatten.all fE=true:=by
  grind
 exact⟨_,_,by unfold An iR;grind,q⟩
def Xz {k}{e}{z}{l c:Int}{h}{Q}(h1:0<=l)(h2:l<=c)(h3:c<=cQ)(k1:h.used k=false)(k2:k<h.next)(k3:h.get k=none)
  (q:Q ⟨some ⟨k,0,none⟩,l.toNat,c.toNat+1⟩ (h.di k h.next e (List.replicate c.toNat z).flatten)) (hz:z.all fE=true:=by rfl):Wp (An (some k) e z l c) h Q:=by
 have hs:(List.replicate c.toNat z).flatten.all fE=true:=by
  grind
 exact⟨_,_,by unfold An iR;grind,q⟩
def ES {s}{lo hi:Int}{e}{z}{h}{Q}(h1:0<=lo)(h2:lo<=hi)(h3:hi<=s.len)(h4:p8 h s e=true)
  (q:Q ⟨s.a.map (·.plus (lo.toNat*z)),hi.toNat-lo.toNat,s.cap-(if s.cap=0 then 0 else lo.toNat)⟩ h):Wp (mU s lo hi e z) h Q:=
 ⟨_,_,by unfold mU;grind,q⟩
def CH {m:M α}{as}{h}{Q}(hm:Wp m h λx h'=>(∀a,some a∈as->h'.get a.block=h.get a.block)/\Q x h'):Wp (uw as m) h Q:=by
 obtain⟨x,h',e,hs,q⟩:=hm;refine⟨x,h',?_,q⟩;have:sameAt h h' as=true:=by
  clear e q
  induction as with
  |nil=>rfl
  |cons a r ih=>
   have ih:=ih λa ha=>hs a (BY _ ha);cases a with
   |none=>exact ih
   |some b=>
    have hb:=hs b (by simp);unfold sameAt;cases aeB h h' b with
    |isTrue _=>exact ih
    |isFalse hn=>exact absurd (gX.of hb) hn
 grind [uw]
theorem kC {cs}{x}{c}{h}{Q}(hx:xR cs (KI x)=some c)(q:Q c h):Wp (qj cs x) h Q:=
 ⟨c,h,by unfold qj;rw[hx],q⟩
theorem agy {k k'}(h:Pz k k'=true):k=k':=by cases k<;>cases k'<;>simp_all[Pz,Ro]
theorem iH {a b}(h:mM a b=true):a=b:=by
 rw[qC] at h;have h:=beq_iff_eq.1 h;rw[ByteArray.toList_eq,ByteArray.toList_eq] at h;cases a;simp_all
theorem RM {v u}(h:DC v u=true):v=u:=by
 cases v<;>cases u<;>simp only[DC,aaq,abb] at h<;>try cases h
 .grind
 .grind [agy]
 .rw[iH h]
theorem RN:∀{xs ys},Ao xs ys=true->xs=ys
 |[],[],_=>rfl
 |[],_::_,h=>by cases h
 |_::_,[],h=>by cases h
 |x::xs,y::ys,h=>by
  simp[Ao,aaq] at h;rw[RM h.1,RN h.2]
theorem Qa {x y}(h:Cg x y=true):x=y:=by
 unfold Cg at h
 grind [Array.toList_inj,RN,RM]
def yR {k v k'}{c}:∀{es},Ap k' (rB k v c es)=if Cg k' k then some v else Ap k' es
 |[]=>by grind [rB,Ap,iF,Cg]
 |e::r=>by
  have ih:=yR (k:=k) (v:=v) (k':=k') (c:=c) (es:=r)
  grind [rB,Cg,Ap,iF,Qa]
theorem D1 {k v}{c}:∀{es},(rB k v c es).length=if (iF k es).isSome then es.length else es.length+1
 |[]=>rfl
 |e::r=>by
  have ih:=D1 (k:=k) (v:=v) (c:=c) (es:=r)
  grind [Cg,rB,iF,List.length_cons]
def wg (c:Nat):List F8->Prop
 |[]=>True
 |e::r=>e.born<c/\(∀x∈r,x.born≠e.born)/\wg c r
def wg.mono {c c'}(hc:c<=c'):∀{es},wg c es->wg c' es
 |[],_=>trivial
 |e::r,h=>⟨aky h.1 hc,h.2.1,wg.mono hc h.2.2⟩
def JX {k v}{c}:∀{es},∀x∈rB k v c es,(∃y∈es,x.born=y.born)\/x.born=c
 |[]=>by simp[rB]
 |e::r=>by
  intro x hx;simp[rB] at hx;split at hx
  .grind
  .rcases List.mem_cons.1 hx with rfl|hx
   .grind
   .rcases JX x hx with⟨y,h1,h2⟩|h1
    .grind
    .exact .inr h1
theorem wg.put {k v}{c c'}(hc:c<=c'):∀{es},wg c es->(iF k es=none->c<c')->wg c' (rB k v c es)
 |[],_,h=>⟨h rfl,by simp,trivial⟩
 |e::r,hs,h=>by
  simp[rB];simp[iF] at h;cases hq:Cg k e.key
  .rw[hq] at h;refine⟨aky hs.1 hc,λx hx=>?_,wg.put hc hs.2.2 h⟩;rcases JX x hx with⟨y,h1,h2⟩|h1
   .rw[h2];exact hs.2.1 y h1
   .rw[h1];have:=hs.1;omega
  .exact⟨aky hs.1 hc,hs.2.1,hs.2.2.mono hc⟩
structure MB (h:aj) (m:Nat) (kt:μ) (f:ο->Option ο) (n:Nat):Prop where
 ex:∃c es,h.jW m=some ⟨kt,c,es⟩/\wg c es/\(∀k,Ap k es=f k)/\es.length=n
def MB.lt {h}{m}{kt}{f}{n}(l:MB h m kt f n)(hw:WF h):m<h.next:=by
 obtain⟨c,es,h1,_⟩:=l.ex;exact hw.mlt h1
def MB.fr {h h'}{m}{kt}{f}{n}{X}(l:MB h m kt f n)(fr:Fr X h h')(hx:¬X (m+1)):MB h' m kt f n:=by
 obtain⟨c,es,h1,h2⟩:=l.ex;exact⟨c,es,fr.maps _ _ h1 hx,h2⟩
def HK {h:aj}{m}{kt}{c}{es}(hm:h.jW m=some ⟨kt,c,es⟩):h.DG kt m=some (c,es):=by
 unfold aj.DG;rw[hm];simp[j6]
def XA {kt}{h}(hw:WF h){Q}(hq:∀h',MB h' h.next kt (λ_=>none) 0->Fr (λ_=>False) h h'->Q h.next h'):Wp (DE kt) h Q:=by
 refine⟨_,_,rfl,hq _ ⟨0,[],by simp[aj.oM,j6],trivial,λ_=>rfl,rfl⟩ ⟨⟨λj hj=>?_,λj hj=>?_,λj c g b e hj=>?_,λj hj=>?_⟩,ak2 _,λ_ _ _ _ _ e _=>e,λ_ _ _=>rfl,λj hj=>?_,λ_ _ e=>e,λj x hj _=>?_⟩⟩
 .exact hw.get j (by simp at hj;omega)
 .simp at hj;simp[bO (show j≠h.next by omega)];exact hw.used j (by omega)
 .exact abt (hw.iL j c g b e hj) (by simp)
 .simp[aj.oM,bO (cu hj).1];exact hw.maps j (cu hj).2
 .grind [bO]
 .have:=hw.mlt hj;simp[aj.oM,bO (show j≠h.next by omega)];exact hj
theorem Fr.oM {h}(hw:WF h){m}{x y}(hm:h.jW m=some y):Fr (·=m+1) h (h.oM m x):=by
 refine⟨⟨hw.get,hw.used,hw.iL,λj hj=>?_⟩,aao _,λ_ _ _ _ _ e _=>e,λ_ _ _=>rfl,λ_ _=>rfl,λ_ _ e=>e,λj x hj hx=>?_⟩
 .have hj:h.used j=false:=hj;have hn:=hw.maps j hj;simp[aj.oM,bO (show j≠m from λe=>by grind)];exact hn
 grind [aj.oM,bO]
def MB.amn {h}{m}{kt}{f}{n}(l:MB h m kt f n){T}{z}{k}{Q}
  (h1:∀v,f k=some v->∃x,MK T v=some x/\Q (true,x) h) (h2:f k=none->Q (false,z) h):Wp (zF kt T z (some m) k) h Q:=by
 obtain⟨c,es,e1,_,e2,_⟩:=l.ex;unfold Wp zF;simp only[HK e1,e2]
 grind
def zT (f:ο->Option ο)(k v:ο):ο->Option ο:=λk'=>if Cg k' k then some v else f k'
def MB.amo {h}{m}{kt}{f}{n}(l:MB h m kt f n)(hw:WF h){k v}{Q}
  (hq:∀h',MB h' m kt (zT f k v) (if (f k).isSome then n else n+1)->Fr (·=m+1) h h'->Q () h'):Wp (FG kt (some m) k v) h Q:=by
 have hlt:=l.lt hw;obtain⟨c,es,e1,e3,e2,e4⟩:=l.ex;unfold Wp FG;simp only[HK e1];have hk:(iF k es).isSome=(f k).isSome:=by grind [Ap,iF]
 refine⟨(),h.oM m ⟨kt,(match iF k es with|some _=>c|none=>c+1),rB k v c es⟩,rfl,hq _ ⟨_,_,by simp[aj.oM,j6];exact⟨rfl,rfl⟩,?_,λk'=>?_,?_⟩ (Fr.oM hw e1)⟩
 .cases hm:iF k es with
  |none=>exact e3.put (ak2 _) λ_=>af7 _
  |some x=>exact e3.put (aao _) λhn=>by rw[hm] at hn;cases hn
 .rw[yR,e2];rfl
 .rw[D1,hk,e4]
theorem MB.len {h}{m}{kt}{f}{n}(l:MB h m kt f n){Q}(q:Q n h):Wp (MN (some m)) h Q:=by
 obtain⟨c,es,e1,_,_,e4⟩:=l.ex;exact⟨n,h,by grind [MN],q⟩
def D2 (h:aj)(m:Nat)(k:ο)(st:Nat):Prop:=∃x,h.jW m=some x/\∃e,iF k x.es=some e/\e.born=st
def D2.fr {h h'}{m}{k}{st}{X}(l:D2 h m k st)(fr:Fr X h h')(hx:¬X (m+1)):D2 h' m k st:=by
 obtain⟨x,h1,h2⟩:=l;exact⟨x,fr.maps _ _ h1 hx,h2⟩
def HN {k v}{c}(hk:Cg k k=true):∀{es},iF k es=none->iF k (rB k v c es)=some ⟨k,v,c⟩
 |[],_=>by simp[rB,iF,hk]
 |e::r,h=>by
  simp[iF] at h;simp[rB];cases hq:Cg k e.key
  .rw[hq] at h;simp[iF,hq];exact HN hk h
  .rw[hq] at h;cases h
def MB.entry {h}{m}{kt}{f}{n}(l:MB h m kt f n)(hw:WF h){T}{z}{k}(hk:Cg k k=true){Q}
  (h1:∀v,f k=some v->∃x,MK T v=some x/\∀st,D2 h m k st->Q (x,st) h)
  (h2:f k=none->∀h' st,MB h' m kt (zT f k (EA T z)) (n+1)->D2 h' m k st->Fr (·=m+1) h h'->Q (z,st) h'):Wp (yE kt T z (some m) k) h Q:=by
 have hlt:=l.lt hw;obtain⟨c,es,e1,e3,e2,e4⟩:=l.ex;unfold Wp yE;simp only[HK e1];cases hm:iF k es with
 |none=>
  have hf:f k=none:=by grind [Ap]
  refine⟨_,_,rfl,h2 hf _ _ ⟨c+1,rB k (EA T z) c es,by simp[aj.oM,j6],e3.put (ak2 _) λ_=>af7 _,λk'=>?_,?_⟩ ⟨⟨kt,c+1,rB k (EA T z) c es⟩,by simp[aj.oM,j6],⟨k,EA T z,c⟩,HN hk hm,rfl⟩ (Fr.oM hw e1)⟩
  .rw[yR,e2];rfl
  grind [D1]
 |some e=>
  have hf:f k=some e.val:=by grind [Ap]
  obtain⟨x,hx,q⟩:=h1 _ hf;simp only[hx];exact⟨_,_,rfl,q _ ⟨_,e1,e,hm,rfl⟩⟩
def HO {k v}{c}:∀{es} {e},wg c es->iF k es=some e->JG e.born v es=some (rB k v c es)
 |[],e,_,h=>by cases h
 |x::r,e,hs,h=>by
  simp[iF] at h;simp[JG,rB];cases hq:Cg k x.key
  .rw[hq] at h;have hmem:∀{es:List F8},iF k es=some e->e∈es:=by
    intro es
    induction es with
    |nil=>intro h;cases h
    |cons y r ih=>
     grind [iF,List.mem_cons_of_mem]
   have hne:=hs.2.1 e (hmem h);rw[bO (λe2=>hne e2.symm)];simp;rw[HO hs.2.2 h]
  grind [j6,Qa]
def MB.store {h}{m}{kt}{f}{n}(l:MB h m kt f n)(hw:WF h){k v}{st}(hs:D2 h m k st){Q}
  (hq:∀h',MB h' m kt (zT f k v) n->Fr (·=m+1) h h'->Q () h'):Wp (yF (some m) (st:Int) v) h Q:=by
 have hlt:=l.lt hw;obtain⟨c,es,e1,e3,e2,e4⟩:=l.ex;obtain⟨x,h1,e,h2,rfl⟩:=hs;rw[e1] at h1;cases h1;have hp:=HO (v:=v) e3 h2;have hd:decide (0<=((e.born:Nat):Int))=true:=by simp
 unfold Wp yF;simp only[e1,hd,OF,hp];refine⟨(),h.oM m ⟨kt,c,rB k v c es⟩,rfl,hq _ ⟨c,rB k v c es,by simp[aj.oM,j6],e3.put (aao _) (λhn=>by grind),λk'=>?_,?_⟩ (Fr.oM hw e1)⟩
 .rw[yR,e2];rfl
 grind [D1]
end Go.Ago
