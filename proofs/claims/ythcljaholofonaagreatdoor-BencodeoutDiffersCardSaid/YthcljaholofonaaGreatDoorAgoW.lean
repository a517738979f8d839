
import Derived.Test.YthcljaholofonaaGreatDoorAgoI
set_option linter.all false
namespace Go.Ago
open Go
variable {α β:Type}
def Wp (m:M α)(h:aj)(Q:α->aj->Prop):Prop:=∃x h',m h=some (x,h')/\Q x h'
def Wp.mono {m:M α}{h}{Q Q'}(hm:Wp m h Q)(hq:∀x h',Q x h'->Q' x h'):Wp m h Q':=by
 obtain⟨x,h',e,q⟩:=hm;exact⟨x,h',e,hq _ _ q⟩
theorem ah {m}{f:α->M β}{h}{Q}:Wp (sh m f) h Q↔Wp m h λx h'=>Wp (f x) h' Q:=by
 constructor
 .rintro⟨y,h2,e,q⟩;unfold sh at e;split at e
  .rename_i x h1 hm;exact⟨x,h1,hm,y,h2,e,q⟩
  .cases e
 .rintro⟨x,h1,hm,y,h2,e,q⟩;exact⟨y,h2,by unfold sh;rw[hm];exact e,q⟩
def Wp.bind {m}{f:α->M β}{h}{Q}(hm:Wp m h λx h'=>Wp (f x) h' Q):Wp (sh m f) h Q:=ah.2 hm
def Wp.seq {m}{f:α->M β}{h}{R}{Q}(hm:Wp m h R)(hf:∀x h',R x h'->Wp (f x) h' Q):Wp (sh m f) h Q:=ah.2 (hm.mono hf)
def ag {x:α}{h}{Q}:Wp (AI x) h Q↔Q x h:=
 ⟨λ⟨_,_,e,q⟩=>by cases e;exact q,λq=>⟨x,h,rfl,q⟩⟩
def an7 {p}{h}{Q}:Wp (nn p) h Q↔∃a,p=some a/\Q a h:=by
 constructor
 .rintro⟨x,h',e,q⟩;cases p<;>simp[nn] at e
  grind
 .rintro⟨a,rfl,q⟩;exact⟨a,h,rfl,q⟩
def lC {a}{h}{Q}:Wp (nn (some a)) h Q↔Q a h:=by simp[an7]
def eE {c}[Decidable c]{a b:M α}{h}{Q}:Wp (if c then a else b) h Q↔(c->Wp a h Q)/\(¬c->Wp b h Q):=by
 grind
def J6 {b}{h}{Q}:Wp (qT b) h Q↔b=true/\Q () h:=by
 constructor
 .rintro⟨x,h',e,q⟩;cases b<;>simp[qT] at e;grind
 .rintro⟨rfl,q⟩;exact⟨(),h,rfl,q⟩
def aj.ld (h:aj)(l:yf)(b o:Nat):Option l.den:=
 match h.get b with
 |some (.cells c _ _ _)=>(match c[o]? with|some v=>D9 l v|none=>none)
 |_=>none
def yr {l}{a}{h}{Q}:Wp (dz l a) h Q↔∃x,h.ld l a.block a.off=some x/\Q x h:=by
 have key:dz l a h=(match h.ld l a.block a.off with|some x=>some (x,h)|none=>none):=by
  unfold dz aj.cell aj.ld
  grind
 constructor
 .rintro⟨x,h',e,q⟩
  grind
 .rintro⟨x,hx,q⟩;exact⟨x,h,by rw[key,hx],q⟩
def aj.ldI (h:aj)(k:IntKind)(b o:Nat):Option Int:=h.ld (.int k) b o
def aj.ldB (h:aj)(b o:Nat):Option Bool:=h.ld .bool b o
def aj.LD (h:aj)(b o:Nat):Option ζ:=h.ld .str b o
def aj.ldV (h:aj)(b o:Nat):Option Sl:=h.ld .sl b o
def lZ {k}{a}{h}{Q}:Wp (α:=Int) (dz (.int k) a) h Q↔∃x,h.ldI k a.block a.off=some x/\Q x h:=yr
def ma {a}{h}{Q}:Wp (α:=Bool) (dz .bool a) h Q↔∃x,h.ldB a.block a.off=some x/\Q x h:=yr
def mc {a}{h}{Q}:Wp (α:=ζ) (dz .str a) h Q↔∃x,h.LD a.block a.off=some x/\Q x h:=yr
def me {a}{h}{Q}:Wp (α:=Sl) (dz .sl a) h Q↔∃x,h.ldV a.block a.off=some x/\Q x h:=yr
def aj.eZ (h:aj) ls (b o:Nat):Option (pC ls):=
 match h.get b with
 |some (.cells c _ _ _)=>if o+ls.length<=c.length then Ea ls ((c.drop o).take ls.length) else none
 |_=>none
def Gd {ls}{a}{h}{Q}:Wp (cF ls a) h Q↔∃x,h.eZ ls a.block a.off=some x/\Q x h:=by
 have key:cF ls a h=(match h.eZ ls a.block a.off with|some x=>some (x,h)|none=>none):=by
  unfold cF aX aj.eZ
  grind
 constructor
 .rintro⟨x,h',e,q⟩
  grind
 .rintro⟨x,hx,q⟩;exact⟨x,h,by rw[key,hx],q⟩
def RY {a}{vs}{h}{Q} :
  Wp (sL a vs) h Q↔∃c g base e,h.get a.block=some (.cells c g base e)/\g≠0/\a.off+vs.length<=c.length/\vs.all fv=true/\Q () (h.wE a.block (aR c a.off vs) g base e):=by
 constructor
 .rintro⟨x,h',e,q⟩
  grind [sL]
 .rintro⟨c,g,b,el,hg,h1,h2,h3,q⟩;exact⟨(),_,by unfold sL;grind,q⟩
def Hd {e}{cs}{h}{Q}:Wp (gG none e cs) h Q↔cs.all fv=true/\Q h.next (h.new e cs):=by
 constructor
 .rintro⟨x,h',he,q⟩
  grind [gG]
 .rintro⟨hc,q⟩;exact⟨_,_,by unfold gG;rw[By hc],q⟩
def J7 {k}{e}{cs}{h}{Q} :
  Wp (gG (some k) e cs) h Q↔cs.all fv=true/\h.used k=false/\k<h.next/\h.get k=none/\Q k (h.cQ k h.next e cs):=by
 constructor
 .rintro⟨x,h',he,q⟩;unfold gG at he;split at he
  .rename_i hc;simp only at he;split at he
   .rename_i hd;cases he;simp_all
   .cases he
  .cases he
 .rintro⟨hc,h1,h2,h3,q⟩;exact⟨_,_,by unfold gG;grind,q⟩
def RZ {n}{h}{Q}:Wp (bX n) h Q↔Q h.next { h with next:=h.next+n }:=
 ⟨λ⟨_,_,e,q⟩=>by cases e;exact q,λq=>⟨_,_,rfl,q⟩⟩
def aew {l}{n:Nat}{cs}{i}{h}{v}{x}{Q}(h1:0<=i)(h2:i<(n:Int))(hv:cs[i.toNat]?=some v)(hx:D9 l v=some x)(q:Q x h):Wp (Nd l n cs i) h Q:=
 ⟨x,h,by unfold Nd;grind,q⟩
def fA {s}{i}{h}{Q}:Wp (qc s i) h Q↔∃b,0<=i/\s[i.toNat]?=some b/\Q b h:=by
 constructor
 .rintro⟨x,h',e,q⟩
  grind [qc]
 .rintro⟨b,hi,hb,q⟩;exact⟨b,h,by unfold qc;rw[By hi,hb],q⟩
def bY {s}{lo hi}{h}{Q}:Wp (jG s lo hi) h Q↔0<=lo/\lo<=hi/\hi<=s.size/\Q (s.extract lo.toNat hi.toNat) h:=by
 constructor
 .rintro⟨x,h',e,q⟩
  grind [jG,EV]
 .rintro⟨h1,h2,h3,q⟩;exact⟨_,h,by unfold jG;rw[By ⟨h1,h2,h3⟩,EV],q⟩
def ta {s}{i}{z}{h}{Q}:Wp (ni s i z) h Q↔∃a,s.a=some a/\0<=i/\i<s.len/\Q (a.plus (i.toNat*z)) h:=by
 constructor
 .rintro⟨x,h',e,q⟩
  grind [ni]
 .rintro⟨a,ha,h1,h2,q⟩;exact⟨_,h,by unfold ni;grind,q⟩
def tc {x y}{h}{Q}:Wp (mG x y) h Q↔x.size+y.size<=bJ/\Q (x++y) h:=by
 constructor
 .rintro⟨z,h',e,q⟩
  grind [mG]
 .rintro⟨hc,q⟩;exact⟨_,h,by unfold mG;rw[By hc],q⟩
def ZQ {s}{z}{h}{Q}(q:(s.len=0/\Q [] h)\/∃cs,aX h s.a (s.len*z)=some cs/\Q cs h):Wp (EU s z) h Q:=by
 unfold Wp EU;rcases q with⟨e,q⟩|⟨cs,hc,q⟩
 .rw[e];exact⟨_,_,rfl,q⟩
 .by_cases e:s.len=0
  .rw[e];rw[e] at hc;refine⟨_,_,rfl,?_⟩;have:cs=[]:=by
    unfold aX at hc;split at hc
    .simp at hc;exact hc
    .split at hc
     .simp at hc;exact hc.2
     .cases hc
   rw[<-this];exact q
  .obtain⟨n,e⟩:=Nat.exists_eq_succ_of_ne_zero e;rw[e] at hc⊢;simp only[hc];exact⟨_,_,rfl,q⟩
def MH {v}{h}{Q}:Wp (nN v) h Q↔(v=.nilIface/\Q true h)\/(∃t u,v=.iface t u/\Q false h):=by
 constructor
 .rintro⟨x,h',e,q⟩;unfold nN at e
  grind
 .rintro (⟨rfl,q⟩|⟨t,u,rfl,q⟩)
  .exact⟨true,h,rfl,q⟩
  .exact⟨false,h,rfl,q⟩
structure WF (h:aj):Prop where
 get:∀j,h.next<=j->h.get j=none
 used:∀j,h.next<=j->h.used j=false
 jU:∀j c g b e,h.get j=some (.cells c g b e)->g<=h.next
 maps:∀j,h.used j=false->h.kX j=none
def cu {j n:Nat}{b}(h:cond (Nat.beq j n) true b=false):j≠n/\b=false:=by
 rw[bu] at h;grind
def WF.mlt {h}(hw:WF h){j}{x}(hx:h.kX j=some x):j<h.next:=by
 by_cases hj:j<h.next
 .exact hj
 .rw[hw.maps j (hw.used j (by omega))] at hx;cases hx
structure Fr (X:Nat->Prop) (h h':aj):Prop where
 wf:WF h'
 next:h.next<=h'.next
 cells:∀j c g b e,h.get j=some (.cells c g b e)->(X g->g=0)->h'.get j=some (.cells c g b e)
 sx:∀g,g<=h.next->(X g->g=0)->h'.sx g=h.sx g
 used:∀j,j<h.next->h'.used j=h.used j
 none:∀j,j<h.next->h.get j=none->h'.get j=none
 maps:∀j x,h.kX j=some x->¬X (j+1)->h'.kX j=some x
def Fr.refl {X}{h}(hw:WF h):Fr X h h:=⟨hw,acX _,λ_ _ _ _ _ e _=>e,λ_ _ _=>rfl,λ_ _=>rfl,λ_ _ e=>e,λ_ _ e _=>e⟩
theorem Fr.trans {X Y}{h h1 h2}(hw:WF h)(a:Fr X h h1)(b:Fr Y h1 h2)(hy:∀g,Y g->g≠0->X g\/h.next<g):Fr X h h2:=by
 refine⟨b.wf,ad5 a.next b.next,?_,?_,?_,?_,λj x hj hx=>?_⟩
 .intro j c g bs e hj hg;refine b.cells j c g bs e (a.cells j c g bs e hj hg) λhm=>?_;by_cases h0:g=0
  .exact h0
  .rcases hy g hm h0 with h3|h3
   .exact hg h3
   .have:=hw.jU j c g bs e hj;omega
 .intro g hg hx;have hx1:Y g->g=0:=λhm=>by
   grind
  rw[b.sx g (ad5 hg a.next) hx1,a.sx g hg hx]
 .intro j hj;rw[b.used j (apj hj a.next),a.used j hj]
 .intro j hj hn;exact b.none j (apj hj a.next) (a.none j hj hn)
 .have hlt:=hw.mlt hj;refine b.maps j x (a.maps j x hj hx) λhy2=>?_
  grind
def Fr.mono {X Y}{h h'}(hw:WF h)(a:Fr X h h')(hs:∀g,X g->g≠0->Y g\/h.next<g):Fr Y h h':=
 Fr.trans hw (Fr.refl hw) a hs
theorem nq (j:Nat):Nat.beq j j=true:=anD j
theorem cT {i j:Nat}(h:i≠j):Nat.beq i j=false:=by
 grind [absurd,Nat.eq_of_beq_eq_true]
def Ge {h:aj}{b}{c}{g base}{e}:(h.wE b c g base e).get b=some (.cells c g base e):=by
 simp[aj.wE,nq]
def R4 {h:aj}{b j}{c}{g base}{e}{c'}{g' b'}{e'}(hj:h.get j=some (.cells c' g' b' e'))(hg:g'≠g)(hb:j≠b) :
  (h.wE b c g base e).get j=some (.cells c' g' b' e'):=by
 simp[aj.wE,cT hb,hj,cT hg]
def zT {h:aj}{b j}{c}{g base}{e}{k}(hj:(h.wE b c g base e).get j=some k):(j=b/\k=.cells c g base e)\/(j≠b/\h.get j=some k):=by
 unfold aj.wE at hj;simp at hj;by_cases hb:j=b
 .simp_all
 grind [cT]
def WF.wE {h}(hw:WF h){b}{c c0}{g base base0}{e e0}(hb:h.get b=some (.cells c0 g base0 e0)):WF (h.wE b c g base e):=by
 have hlt:b<h.next:=by
  by_cases hx:b<h.next
  .exact hx
  .rw[hw.get b (by omega)] at hb;cases hb
 refine⟨λj hj=>?_,hw.used,λj c' g' b' e' hj=>?_,hw.maps⟩
 .have h0:=hw.get j hj;have hj:h.next<=j:=hj
  cases hq:(h.wE b c g base e).get j with
  |none=>rfl
  |some k=>
   rcases zT hq with⟨h1,_⟩|⟨_,h1⟩
   .omega
   grind
 .rcases zT hj with⟨_,h1⟩|⟨_,h1⟩
  .cases h1;exact hw.jU _ _ _ _ _ hb
  .exact hw.jU _ _ _ _ _ h1
def Fr.wE {h}(hw:WF h){b}{c c0}{g base base0}{e e0}(h0:g≠0)(hb:h.get b=some (.cells c0 g base0 e0)):Fr (·=g) h (h.wE b c g base e):=by
 refine⟨hw.wE hb,acX _,?_,λ_ _ _=>rfl,λ_ _=>rfl,?_,λ_ _ e _=>e⟩
 .intro j c' g' b' e' hj hg;have hg:g'≠g:=λe1=>h0 (by rw[<-e1];exact hg e1);refine R4 hj hg λhjb=>?_
  grind
 .intro j hj hn;cases hq:(h.wE b c g base e).get j with
  |none=>rfl
  |some k=>
   rcases zT hq with⟨h1,_⟩|⟨_,h1⟩
   .grind
   grind
def nR {h:aj}{nm nx}{e}{cs}:(h.cQ nm nx e cs).get nm=some (.cells cs (nm+1) 0 e):=by
 simp[aj.cQ,nq]
theorem jf {h:aj}{nm nx j}{e}{cs}(hj:j≠nm):(h.cQ nm nx e cs).get j=h.get j:=by
 simp[aj.cQ,cT hj]
def zU {h:aj}{nm nx}{e}{cs}:(h.cQ nm nx e cs).sx (nm+1)=cs.length:=by
 simp[aj.cQ,nq]
def CT {h:aj}{nm nx g}{e}{cs}(hg:g≠nm+1):(h.cQ nm nx e cs).sx g=h.sx g:=by
 simp[aj.cQ,cT hg]
def WF.cQ {h}(hw:WF h){nm nx}(h1:nm<nx)(h2:h.next<=nx){e}{cs}:WF (h.cQ nm nx e cs):=by
 refine⟨λj hj=>?_,λj hj=>?_,λj c g b e' hj=>?_,λj hj=>hw.maps j (cu hj).2⟩
 .have hj:nx<=j:=hj;rw[jf (by omega)];exact hw.get j (by omega)
 .have hj:nx<=j:=hj;simp[aj.cQ,cT (show j≠nm by omega)];exact hw.used j (by omega)
 .by_cases hn:j=nm
  .subst hn;rw[nR] at hj;cases hj;exact h1
  .rw[jf hn] at hj;exact ad5 (hw.jU _ _ _ _ _ hj) h2
theorem WF.new {h}(hw:WF h){e}{cs}:WF (h.new e cs):=hw.cQ (IT _) (aop _)
theorem Fr.new {h}(hw:WF h){e}{cs}:Fr (λ_=>False) h (h.new e cs):=by
 refine⟨hw.new,aop _,?_,?_,?_,?_,λ_ _ e _=>e⟩
 .intro j c g b e' hj _;rw[aj.new,jf]
  .exact hj
  .intro hn;subst hn;rw[hw.get _ (acX _)] at hj;cases hj
 .intro g hg _;exact CT (by omega)
 .intro j hj;simp[aj.new,aj.cQ,cT (show j≠h.next by omega)]
 grind [aj.new,aj.new,jf]
def WF.bX {h}(hw:WF h){n}:WF { h with next:=h.next+n }:=
 ⟨λj hj=>hw.get j (by simp at hj;omega),λj hj=>hw.used j (by simp at hj;omega),λj c g b e hj=>ad5 (hw.jU j c g b e hj) (by simp),λj hj=>hw.maps j hj⟩
def Fr.bX {h}(hw:WF h){n}:Fr (λ_=>False) h { h with next:=h.next+n }:=
 ⟨hw.bX,by simp,λ_ _ _ _ _ e _=>e,λ_ _ _=>rfl,λ_ _=>rfl,λ_ _ e=>e,λ_ _ e _=>e⟩
def Fr.cQ {X}{h0 h}(hw:WF h0)(a:Fr X h0 h){k}(hk:h0.next<=k)(hk2:k<h.next){e}{cs}:Fr X h0 (h.cQ k h.next e cs):=by
 refine⟨a.wf.cQ hk2 (acX _),a.next,?_,?_,?_,?_,λj x hj hx=>a.maps j x hj hx⟩
 .intro j c g b e' hj hg;have:=a.cells j c g b e' hj hg;by_cases hn:j=k
  .subst hn;rw[hw.get j hk] at hj;cases hj
  grind [jf]
 .intro g hg hx;rw[CT (by omega)];exact a.sx g hg hx
 .intro j hj;have:j≠k:=by omega
  simp[aj.cQ,cT this];exact a.used j hj
 .intro j hj hn;rw[jf (by omega)];exact a.none j hj hn
def nv (h:aj)(s:Sl)(sz:Nat)(e:κ)(cs:δ)(g:Nat):Prop:=
 cs.length=s.len*sz/\((s=⟨none,0,0⟩/\g=0)\/(0<g/\g<=h.next/\(s.cap=0\/s.cap=s.len+1)/\∃b base,s.a=some ⟨b,0,none⟩/\h.get b=some (.cells cs g base e)/\h.sx g=base+cs.length))
def nv.nil {h}{sz}{e}:nv h ⟨none,0,0⟩ sz e [] 0:=⟨by simp,.inl ⟨rfl,rfl⟩⟩
def nv.fr {h h'}{s}{sz}{e}{cs}{g}{X}(o:nv h s sz e cs g)(f:Fr X h h')(hg:X g->g=0):nv h' s sz e cs g:=by
 obtain⟨h1,h2⟩:=o;refine⟨h1,?_⟩;rcases h2 with h2|⟨h2,h3,h4,b,base,h5,h6,h7⟩
 .exact .inl h2
 .exact .inr ⟨h2,ad5 h3 f.next,h4,b,base,h5,f.cells _ _ _ _ _ h6 hg,by rw[f.sx g h3 hg];exact h7⟩
def nv.au {h}{s}{sz}{e}{cs}{g}(o:nv h s sz e cs g)(hn:s.len≠0) :
  ∃b base,s.a=some ⟨b,0,none⟩/\h.get b=some (.cells cs g base e)/\g≠0:=by
 obtain⟨_,h2⟩:=o
 grind
def nv.le {h}{s}{sz}{e}{cs}{g}(o:nv h s sz e cs g):g<=h.next:=by
 obtain⟨_,h2⟩:=o
 grind
def nv.read {h}{s}{sz}{e}{cs}{g}(o:nv h s sz e cs g):aX h s.a (s.len*sz)=some cs:=by
 obtain⟨h1,h2⟩:=o
 grind [aX]
def nv.wE {h}{s}{sz}{e}{cs cs'}{g b base}(o:nv h s sz e cs g)(hl:cs'.length=cs.length)(hn:s.len≠0)
  (ha:s.a=some ⟨b,0,none⟩) (hb:h.get b=some (.cells cs g base e)):nv (h.wE b cs' g base e) s sz e cs' g:=by
 obtain⟨h1,h2⟩:=o;rcases h2 with⟨rfl,_⟩|⟨h2,h3,h4,b2,base2,h5,h6,h7⟩
 .exact absurd rfl hn
 .rw[ha] at h5;cases h5;rw[hb] at h6;cases h6;exact⟨by omega,.inr ⟨h2,h3,h4,b,base,ha,Ge,by rw[hl];exact h7⟩⟩
theorem nv.app {h}{s}{sz}{e}{cs new}{g n}{st}{Q}(o:nv h s sz e cs g)(hw:WF h)(hn:n≠0)(hl:new.length=n*sz)(hb:s.len+n<=bJ)
  (hq:∀s' h' g',s'.len=s.len+n->s'.cap=0->nv h' s' sz e (cs++new) g'->(g'=g/\g≠0\/g'=h.next+1)->Fr (·=g) h h'->Q s' h'):Wp (Ago.app st s sz e n new) h Q:=by
 obtain⟨h1,h2⟩:=o;have hnx:=hw.get h.next (acX _)
 have key:Ago.app st s sz e n new h=zO st s sz e n new h:=by unfold Ago.app;simp[hnx]
 suffices hh:∃s' h' ,zO st s sz e n new h=some (s',h')/\Q s' h' by
  obtain⟨s',h',e1,e2⟩:=hh;exact⟨s',h',by rw[key];exact e1,e2⟩
 have fresh:nv (h.new e (cs++new)) ⟨some ⟨h.next,0,none⟩,s.len+n,0⟩ sz e (cs++new) (h.next+1):=
  ⟨by grind,.inr ⟨by omega,by simp[aj.new,aj.cQ],.inl rfl,h.next,0,rfl,nR,by rw[aj.new,zU];simp⟩⟩
 have ffr:Fr (·=g) h (h.new e (cs++new)):=(Fr.new hw).mono hw (λ_ hx _=>hx.elim)
 rcases h2 with⟨rfl,rfl⟩|⟨h2,h3,h4,b,base,h5,h6,h7⟩
 .have hc:cs=[]:=ahe (by simpa using h1);subst hc;refine⟨_,_,?_,hq _ _ _ rfl rfl fresh (.inr rfl) ffr⟩;unfold zO
  grind
 .have hcells:aX h (some ⟨b,0,none⟩) (s.len*sz)=some cs:=by grind [aX]
  rcases h4 with h4|h4
  ·-- in the same group
   refine⟨⟨some ⟨h.next,0,none⟩,s.len+n,0⟩,{ h with get:=λj=>cond (Nat.beq j h.next) (some (.cells (cs++new) g (base+0) e)) (h.get j),next:=h.next+1,sx:=λg'=>cond (Nat.beq g' g) (base+0+s.len*sz+new.length) (h.sx g'),used:=λj=>cond (Nat.beq j h.next) true (h.used j) },?_,hq _ _ g rfl rfl ?_ (.inl ⟨rfl,by omega⟩) ?_⟩
   .unfold zO
    grind [ET]
   .refine⟨by grind,.inr ⟨h2,by simp;omega,.inl rfl,h.next,base+0,rfl,by simp[nq],?_⟩⟩
    grind [nq]
   .refine⟨⟨λj hj=>?_,λj hj=>?_,λj c g' b' e' hj=>?_,λj hj=>hw.maps j (cu hj).2⟩,aop _,?_,?_,?_,?_,λ_ _ e _=>e⟩
    .simp at hj;simp[cT (show j≠h.next by omega)];exact hw.get j (by omega)
    .simp at hj;simp[cT (show j≠h.next by omega)];exact hw.used j (by omega)
    .simp only at hj;by_cases hjn:j=h.next
     .grind
     .simp[cT hjn] at hj;have:=hw.jU _ _ _ _ _ hj;simp;omega
    .grind [cT]
    .grind [cT]
    .grind [cT]
    grind [cT]
  .refine⟨_,_,?_,hq _ _ _ rfl rfl fresh (.inr rfl) ffr⟩;unfold zO
   grind
theorem jg {enc:α->δ}{sz}(he:∀x,(enc x).length=sz):∀(L:List α),(L.flatMap enc).length=L.length*sz
 |[]=>by simp
 |x::L=>by rw[ahr,acm,he,jg he L,acg,anz,aqb,arB]
theorem MI {enc:α->δ}{sz}(he:∀x,(enc x).length=sz):∀(L:List α) i ,(L.flatMap enc).drop (i*sz)=(L.drop i).flatMap enc
 |L,0=>by simp
 |[],i+1=>by simp
 |x::L,i+1=>by
  rw[ahr,List.drop_succ_cons,<-MI he L i,anz,aqb,arB,<-aoB]
  grind
theorem Wa {enc:α->δ}{sz}(he:∀x,(enc x).length=sz){L:List α}{i}{x}(hi:L[i]?=some x):((L.flatMap enc).drop (i*sz)).take sz=enc x:=by
 grind [MI,List.getElem?_eq_some_iff,List.drop_eq_getElem_cons,List.take_left]
def zt {enc}{sz}(he:∀x,(enc x).length=sz){L:List α}{i}{x x'}(hi:L[i]?=some x){o}{vs}(ho:o+vs.length<=sz)(hx:enc x'=aR (enc x) o vs) :
  aR (L.flatMap enc) (i*sz+o) vs=(L.set i x').flatMap enc:=by
 have hlt:=(List.getElem?_eq_some_iff.1 hi).1;have hL:L=L.take i++x::L.drop (i+1):=by
  grind [List.drop_eq_getElem_cons,List.getElem?_eq_some_iff,List.take_append_drop]
 have hs:L.set i x'=L.take i++x'::L.drop (i+1):=by grind
 have hl:((L.take i).flatMap enc).length=i*sz:=by grind [jg,List.length_take,Nat.min_eq_left,Nat.le_of_lt]
 rw[hs,apU,ahr,hx]
 conv=>lhs;rw[hL]
 rw[apU,ahr];unfold aR;rw[<-hl,List.take_length_add_append,aps,List.drop_length_add_append,List.take_append_of_le_length (by rw[he];omega),List.drop_append_of_le_length (by rw[he];omega)];simp
structure LB (h:aj) (b:Nat) (cs:δ) (e:κ):Prop where
 get:h.get b=some (.cells cs (b+1) 0 e)
theorem LB.new {h:aj}{e}{cs}:LB (h.new e cs) h.next cs e:=⟨nR⟩
def LB.fr {h h'}{b}{cs}{e}{X}(l:LB h b cs e)(f:Fr X h h')(hx:¬X (b+1)):LB h' b cs e:=⟨f.cells _ _ _ _ _ l.get λhm=>absurd hm hx⟩
def LB.lt {h}{b}{cs}{e}(l:LB h b cs e)(hw:WF h):b<h.next:=by
 have:=hw.jU _ _ _ _ _ l.get;omega
def LB.st {h}{b o}{cs vs}{e}(l:LB h b cs e)(hw:WF h)(ho:o+vs.length<=cs.length)(hv:vs.all fv=true){Q}
  (hq:∀h',LB h' b (aR cs o vs) e->Fr (·=b+1) h h'->Q () h'):Wp (sL ⟨b,o,none⟩ vs) h Q:=by
 rw[RY];exact⟨cs,b+1,0,e,l.get,by omega,ho,hv,hq _ ⟨Ge⟩ (Fr.wE hw (by omega) l.get)⟩
def LB.ld {h}{b o}{cs}{e}(l:LB h b cs e){lf}{v}{x}(hv:cs[o]?=some v)(hx:D9 lf v=some x):h.ld lf b o=some x:=by
 unfold aj.ld;rw[l.get];simp[hv];exact hx
def LB.eZ {h}{b o}{cs}{e}(l:LB h b cs e){ls}{x}(hl:o+ls.length<=cs.length)(hx:Ea ls ((cs.drop o).take ls.length)=some x):h.eZ ls b o=some x:=by
 unfold aj.eZ;rw[l.get];grind
def Fr.fresh {X Y}{h0 h h'}(hw:WF h0)(a:Fr X h0 h)(b:Fr Y h h')(hg:∀g,Y g->X g\/h0.next<g):Fr X h0 h':=a.trans hw b λg hy _=>hg g hy
def R5 {e}{z}{l c:Int}{h}{Q}(h1:0<=l)(h2:l<=c)(h3:c<=bJ)(q:Q ⟨some ⟨h.next,0,none⟩,l.toNat,c.toNat+1⟩ (h.new e (List.replicate c.toNat z).flatten))(hz:z.all fv=true:=by rfl):Wp (xm none e z l c) h Q:=by
 have hs:(List.replicate c.toNat z).flatten.all fv=true:=by
  grind
 exact⟨_,_,by unfold xm gG;grind,q⟩
def ZR {k}{e}{z}{l c:Int}{h}{Q}(h1:0<=l)(h2:l<=c)(h3:c<=bJ)(k1:h.used k=false)(k2:k<h.next)(k3:h.get k=none)
  (q:Q ⟨some ⟨k,0,none⟩,l.toNat,c.toNat+1⟩ (h.cQ k h.next e (List.replicate c.toNat z).flatten)) (hz:z.all fv=true:=by rfl):Wp (xm (some k) e z l c) h Q:=by
 have hs:(List.replicate c.toNat z).flatten.all fv=true:=by
  grind
 exact⟨_,_,by unfold xm gG;grind,q⟩
def rV {s}{lo hi:Int}{e}{z}{h}{Q}(h1:0<=lo)(h2:lo<=hi)(h3:hi<=s.len)(h4:mM h s e=true)
  (q:Q ⟨s.a.map (·.plus (lo.toNat*z)),hi.toNat-lo.toNat,s.cap-(if s.cap=0 then 0 else lo.toNat)⟩ h):Wp (jH s lo hi e z) h Q:=
 ⟨_,_,by unfold jH;grind,q⟩
def J8 {m:M α}{as}{h}{Q}(hm:Wp m h λx h'=>(∀a,some a∈as->h'.get a.block=h.get a.block)/\Q x h'):Wp (sM as m) h Q:=by
 obtain⟨x,h',e,hs,q⟩:=hm;refine⟨x,h',?_,q⟩;have:sameAt h h' as=true:=by
  clear e q
  induction as with
  |nil=>rfl
  |cons a r ih=>
   have ih:=ih λa ha=>hs a (IN _ ha);cases a with
   |none=>exact ih
   |some b=>
    have hb:=hs b (by simp);unfold sameAt;cases ahf h h' b with
    |isTrue _=>exact ih
    |isFalse hn=>exact absurd (iD.of hb) hn
 grind [sM]
theorem lD {cs}{x}{c}{h}{Q}(hx:An cs (Ng x)=some c)(q:Q c h):Wp (sB cs x) h Q:=
 ⟨c,h,by unfold sB;rw[hx],q⟩
theorem ajf {k k'}(h:T6 k k'=true):k=k':=by cases k<;>cases k'<;>simp_all[T6,T5]
theorem A8 {a b}(h:oG a b=true):a=b:=by
 rw[s9] at h;have h:=beq_iff_eq.1 h;rw[ByteArray.toList_eq,ByteArray.toList_eq] at h;cases a;simp_all
theorem Ur {v u}(h:GS v u=true):v=u:=by
 cases v<;>cases u<;>simp only[GS,ac5,ab8] at h<;>try cases h
 .grind
 .grind [ajf]
 .rw[A8 h]
theorem Us:∀{xs ys},Eb xs ys=true->xs=ys
 |[],[],_=>rfl
 |[],_::_,h=>by cases h
 |_::_,[],h=>by cases h
 |x::xs,y::ys,h=>by
  simp[Eb,ac5] at h;rw[Ur h.1,Us h.2]
theorem ZS {x y}(h:FO x y=true):x=y:=by
 unfold FO at h
 grind [Array.toList_inj,Us,Ur]
def A9 {k v k'}{c}:∀{es},CH k' (ud k v c es)=if FO k' k then some v else CH k' es
 |[]=>by grind [ud,CH,jj,FO]
 |e::r=>by
  have ih:=A9 (k:=k) (v:=v) (k':=k') (c:=c) (es:=r)
  grind [ud,FO,CH,jj,ZS]
theorem Gf {k v}{c}:∀{es},(ud k v c es).length=if (jj k es).isSome then es.length else es.length+1
 |[]=>rfl
 |e::r=>by
  have ih:=Gf (k:=k) (v:=v) (c:=c) (es:=r)
  grind [FO,ud,jj,List.length_cons]
def yu (c:Nat):List Iq->Prop
 |[]=>True
 |e::r=>e.born<c/\(∀x∈r,x.born≠e.born)/\yu c r
def yu.mono {c c'}(hc:c<=c'):∀{es},yu c es->yu c' es
 |[],_=>trivial
 |e::r,h=>⟨apj h.1 hc,h.2.1,yu.mono hc h.2.2⟩
def MJ {k v}{c}:∀{es},∀x∈ud k v c es,(∃y∈es,x.born=y.born)\/x.born=c
 |[]=>by simp[ud]
 |e::r=>by
  intro x hx;simp[ud] at hx;split at hx
  .grind
  .rcases List.mem_cons.1 hx with rfl|hx
   .grind
   .rcases MJ x hx with⟨y,h1,h2⟩|h1
    .grind
    .exact .inr h1
theorem yu.put {k v}{c c'}(hc:c<=c'):∀{es},yu c es->(jj k es=none->c<c')->yu c' (ud k v c es)
 |[],_,h=>⟨h rfl,by simp,trivial⟩
 |e::r,hs,h=>by
  simp[ud];simp[jj] at h;cases hq:FO k e.key
  .rw[hq] at h;refine⟨apj hs.1 hc,λx hx=>?_,yu.put hc hs.2.2 h⟩;rcases MJ x hx with⟨y,h1,h2⟩|h1
   .rw[h2];exact hs.2.1 y h1
   .rw[h1];have:=hs.1;omega
  .exact⟨apj hs.1 hc,hs.2.1,hs.2.2.mono hc⟩
structure MB (h:aj) (m:Nat) (kt:κ) (f:ξ->Option ξ) (n:Nat):Prop where
 ex:∃c es,h.kX m=some ⟨kt,c,es⟩/\yu c es/\(∀k,CH k es=f k)/\es.length=n
def MB.lt {h}{m}{kt}{f}{n}(l:MB h m kt f n)(hw:WF h):m<h.next:=by
 obtain⟨c,es,h1,_⟩:=l.ex;exact hw.mlt h1
def MB.fr {h h'}{m}{kt}{f}{n}{X}(l:MB h m kt f n)(fr:Fr X h h')(hx:¬X (m+1)):MB h' m kt f n:=by
 obtain⟨c,es,h1,h2⟩:=l.ex;exact⟨c,es,fr.maps _ _ h1 hx,h2⟩
def J9 {h:aj}{m}{kt}{c}{es}(hm:h.kX m=some ⟨kt,c,es⟩):h.FU kt m=some (c,es):=by
 unfold aj.FU;rw[hm];simp[nq]
def ZT {kt}{h}(hw:WF h){Q}(hq:∀h',MB h' h.next kt (λ_=>none) 0->Fr (λ_=>False) h h'->Q h.next h'):Wp (H0 kt) h Q:=by
 refine⟨_,_,rfl,hq _ ⟨0,[],by simp[aj.qH,nq],trivial,λ_=>rfl,rfl⟩ ⟨⟨λj hj=>?_,λj hj=>?_,λj c g b e hj=>?_,λj hj=>?_⟩,aop _,λ_ _ _ _ _ e _=>e,λ_ _ _=>rfl,λj hj=>?_,λ_ _ e=>e,λj x hj _=>?_⟩⟩
 .exact hw.get j (by simp at hj;omega)
 .simp at hj;simp[cT (show j≠h.next by omega)];exact hw.used j (by omega)
 .exact ad5 (hw.jU j c g b e hj) (by simp)
 .simp[aj.qH,cT (cu hj).1];exact hw.maps j (cu hj).2
 .grind [cT]
 .have:=hw.mlt hj;simp[aj.qH,cT (show j≠h.next by omega)];exact hj
theorem Fr.qH {h}(hw:WF h){m}{x y}(hm:h.kX m=some y):Fr (·=m+1) h (h.qH m x):=by
 refine⟨⟨hw.get,hw.used,hw.jU,λj hj=>?_⟩,acX _,λ_ _ _ _ _ e _=>e,λ_ _ _=>rfl,λ_ _=>rfl,λ_ _ e=>e,λj x hj hx=>?_⟩
 .have hj:h.used j=false:=hj;have hn:=hw.maps j hj;simp[aj.qH,cT (show j≠m from λe=>by grind)];exact hn
 grind [aj.qH,cT]
def MB.apJ {h}{m}{kt}{f}{n}(l:MB h m kt f n){T}{z}{k}{Q}
  (h1:∀v,f k=some v->∃x,OX T v=some x/\Q (true,x) h) (h2:f k=none->Q (false,z) h):Wp (CJ kt T z (some m) k) h Q:=by
 obtain⟨c,es,e1,_,e2,_⟩:=l.ex;unfold Wp CJ;simp only[J9 e1,e2]
 grind
def Fc (f:ξ->Option ξ)(k v:ξ):ξ->Option ξ:=λk'=>if FO k' k then some v else f k'
def MB.apK {h}{m}{kt}{f}{n}(l:MB h m kt f n)(hw:WF h){k v}{Q}
  (hq:∀h',MB h' m kt (Fc f k v) (if (f k).isSome then n else n+1)->Fr (·=m+1) h h'->Q () h'):Wp (Ju kt (some m) k v) h Q:=by
 have hlt:=l.lt hw;obtain⟨c,es,e1,e3,e2,e4⟩:=l.ex;unfold Wp Ju;simp only[J9 e1];have hk:(jj k es).isSome=(f k).isSome:=by grind [CH,jj]
 refine⟨(),h.qH m ⟨kt,(match jj k es with|some _=>c|none=>c+1),ud k v c es⟩,rfl,hq _ ⟨_,_,by simp[aj.qH,nq];exact⟨rfl,rfl⟩,?_,λk'=>?_,?_⟩ (Fr.qH hw e1)⟩
 .cases hm:jj k es with
  |none=>exact e3.put (aop _) λ_=>IT _
  |some x=>exact e3.put (acX _) λhn=>by rw[hm] at hn;cases hn
 .rw[A9,e2];rfl
 .rw[Gf,hk,e4]
theorem MB.len {h}{m}{kt}{f}{n}(l:MB h m kt f n){Q}(q:Q n h):Wp (OY (some m)) h Q:=by
 obtain⟨c,es,e1,_,_,e4⟩:=l.ex;exact⟨n,h,by grind [OY],q⟩
def Gg (h:aj)(m:Nat)(k:ξ)(st:Nat):Prop:=∃x,h.kX m=some x/\∃e,jj k x.es=some e/\e.born=st
def Gg.fr {h h'}{m}{k}{st}{X}(l:Gg h m k st)(fr:Fr X h h')(hx:¬X (m+1)):Gg h' m k st:=by
 obtain⟨x,h1,h2⟩:=l;exact⟨x,fr.maps _ _ h1 hx,h2⟩
def Kc {k v}{c}(hk:FO k k=true):∀{es},jj k es=none->jj k (ud k v c es)=some ⟨k,v,c⟩
 |[],_=>by simp[ud,jj,hk]
 |e::r,h=>by
  simp[jj] at h;simp[ud];cases hq:FO k e.key
  .rw[hq] at h;simp[jj,hq];exact Kc hk h
  .rw[hq] at h;cases h
def MB.entry {h}{m}{kt}{f}{n}(l:MB h m kt f n)(hw:WF h){T}{z}{k}(hk:FO k k=true){Q}
  (h1:∀v,f k=some v->∃x,OX T v=some x/\∀st,Gg h m k st->Q (x,st) h)
  (h2:f k=none->∀h' st,MB h' m kt (Fc f k (GR T z)) (n+1)->Gg h' m k st->Fr (·=m+1) h h'->Q (z,st) h'):Wp (AQ kt T z (some m) k) h Q:=by
 have hlt:=l.lt hw;obtain⟨c,es,e1,e3,e2,e4⟩:=l.ex;unfold Wp AQ;simp only[J9 e1];cases hm:jj k es with
 |none=>
  have hf:f k=none:=by grind [CH]
  refine⟨_,_,rfl,h2 hf _ _ ⟨c+1,ud k (GR T z) c es,by simp[aj.qH,nq],e3.put (aop _) λ_=>IT _,λk'=>?_,?_⟩ ⟨⟨kt,c+1,ud k (GR T z) c es⟩,by simp[aj.qH,nq],⟨k,GR T z,c⟩,Kc hk hm,rfl⟩ (Fr.qH hw e1)⟩
  .rw[A9,e2];rfl
  grind [Gf]
 |some e=>
  have hf:f k=some e.val:=by grind [CH]
  obtain⟨x,hx,q⟩:=h1 _ hf;simp only[hx];exact⟨_,_,rfl,q _ ⟨_,e1,e,hm,rfl⟩⟩
def Kd {k v}{c}:∀{es} {e},yu c es->jj k es=some e->Ml e.born v es=some (ud k v c es)
 |[],e,_,h=>by cases h
 |x::r,e,hs,h=>by
  simp[jj] at h;simp[Ml,ud];cases hq:FO k x.key
  .rw[hq] at h;have hmem:∀{es:List Iq},jj k es=some e->e∈es:=by
    intro es
    induction es with
    |nil=>intro h;cases h
    |cons y r ih=>
     grind [jj,List.mem_cons_of_mem]
   have hne:=hs.2.1 e (hmem h);rw[cT (λe2=>hne e2.symm)];simp;rw[Kd hs.2.2 h]
  grind [nq,ZS]
def MB.store {h}{m}{kt}{f}{n}(l:MB h m kt f n)(hw:WF h){k v}{st}(hs:Gg h m k st){Q}
  (hq:∀h',MB h' m kt (Fc f k v) n->Fr (·=m+1) h h'->Q () h'):Wp (AR (some m) (st:Int) v) h Q:=by
 have hlt:=l.lt hw;obtain⟨c,es,e1,e3,e2,e4⟩:=l.ex;obtain⟨x,h1,e,h2,rfl⟩:=hs;rw[e1] at h1;cases h1;have hp:=Kd (v:=v) e3 h2;have hd:decide (0<=((e.born:Nat):Int))=true:=by simp
 unfold Wp AR;simp only[e1,hd,IS,hp];refine⟨(),h.qH m ⟨kt,c,ud k v c es⟩,rfl,hq _ ⟨c,ud k v c es,by simp[aj.qH,nq],e3.put (acX _) (λhn=>by grind),λk'=>?_,?_⟩ (Fr.qH hw e1)⟩
 .rw[A9,e2];rfl
 grind [Gf]
end Go.Ago
