
import Derived.Test.YtpojbnjkkkiccaaGreatDoorAgoI
set_option linter.all false
namespace Go.Ago
open Go
variable {α β:Type}
def Wp (m:M α)(h:ai)(Q:α->ai->Prop):Prop:=∃x h',m h=some (x,h')/\Q x h'
def Wp.mono {m:M α}{h}{Q Q'}(hm:Wp m h Q)(hq:∀x h',Q x h'->Q' x h'):Wp m h Q':=by
 obtain⟨x,h',e,q⟩:=hm;exact⟨x,h',e,hq _ _ q⟩
theorem ah {m}{f:α->M β}{h}{Q}:Wp (sh m f) h Q↔Wp m h λx h'=>Wp (f x) h' Q:=by
 constructor
 .rintro⟨y,h2,e,q⟩;unfold sh at e;split at e
  .rename_i x h1 hm;exact⟨x,h1,hm,y,h2,e,q⟩
  .cases e
 .rintro⟨x,h1,hm,y,h2,e,q⟩;exact⟨y,h2,by unfold sh;rw[hm];exact e,q⟩
def Wp.bind {m}{f:α->M β}{h}{Q}(hm:Wp m h λx h'=>Wp (f x) h' Q):Wp (sh m f) h Q:=ah.2 hm
def Wp.seq {m}{f:α->M β}{h}{R}{Q}(hm:Wp m h R)(hf:∀x h',R x h'->Wp (f x) h' Q):Wp (sh m f) h Q:=ah.2 (hm.mono hf)
def ag {x:α}{h}{Q}:Wp (AI x) h Q↔Q x h:=
 ⟨λ⟨_,_,e,q⟩=>by cases e;exact q,λq=>⟨x,h,rfl,q⟩⟩
theorem amq {p}{h}{Q}:Wp (nn p) h Q↔∃a,p=some a/\Q a h:=by
 constructor
 .rintro⟨x,h',e,q⟩;cases p<;>simp[nn] at e
  grind
 .rintro⟨a,rfl,q⟩;exact⟨a,h,rfl,q⟩
def rQ {a}{h}{Q}:Wp (nn (some a)) h Q↔Q a h:=by simp[amq]
theorem GZ {c}[Decidable c]{a b:M α}{h}{Q}:Wp (if c then a else b) h Q↔(c->Wp a h Q)/\(¬c->Wp b h Q):=by
 grind
theorem Zf {b}{h}{Q}:Wp (pD b) h Q↔b=true/\Q () h:=by
 constructor
 .rintro⟨x,h',e,q⟩;cases b<;>simp[pD] at e;grind
 .rintro⟨rfl,q⟩;exact⟨(),h,rfl,q⟩
def ai.ld (h:ai)(l:vO)(b o:Nat):Option l.den:=
 match h.get b with
 |some (.cells c _ _ _)=>(match c[o]? with|some v=>D6 l v|none=>none)
 |_=>none
theorem yH {l}{a}{h}{Q}:Wp (dL l a) h Q↔∃x,h.ld l a.block a.off=some x/\Q x h:=by
 have key:dL l a h=(match h.ld l a.block a.off with|some x=>some (x,h)|none=>none):=by
  unfold dL ai.cell ai.ld
  grind
 constructor
 .rintro⟨x,h',e,q⟩
  grind
 .rintro⟨x,hx,q⟩;exact⟨x,h,by rw[key,hx],q⟩
def ai.ldI (h:ai)(k:IntKind)(b o:Nat):Option Int:=h.ld (.int k) b o
def ai.ldB (h:ai)(b o:Nat):Option Bool:=h.ld .bool b o
def ai.Ld (h:ai)(b o:Nat):Option ζ:=h.ld .str b o
def ai.ldV (h:ai)(b o:Nat):Option Sl:=h.ld .sl b o
def sW {k}{a}{h}{Q}:Wp (α:=Int) (dL (.int k) a) h Q↔∃x,h.ldI k a.block a.off=some x/\Q x h:=yH
def sX {a}{h}{Q}:Wp (α:=Bool) (dL .bool a) h Q↔∃x,h.ldB a.block a.off=some x/\Q x h:=yH
def sY {a}{h}{Q}:Wp (α:=ζ) (dL .str a) h Q↔∃x,h.Ld a.block a.off=some x/\Q x h:=yH
def sZ {a}{h}{Q}:Wp (α:=Sl) (dL .sl a) h Q↔∃x,h.ldV a.block a.off=some x/\Q x h:=yH
def ai.gh (h:ai) ls (b o:Nat):Option (j9 ls):=
 match h.get b with
 |some (.cells c _ _ _)=>if o+ls.length<=c.length then D7 ls ((c.drop o).take ls.length) else none
 |_=>none
theorem FG {ls}{a}{h}{Q}:Wp (cT ls a) h Q↔∃x,h.gh ls a.block a.off=some x/\Q x h:=by
 have key:cT ls a h=(match h.gh ls a.block a.off with|some x=>some (x,h)|none=>none):=by
  unfold cT bu ai.gh
  grind
 constructor
 .rintro⟨x,h',e,q⟩
  grind
 .rintro⟨x,hx,q⟩;exact⟨x,h,by rw[key,hx],q⟩
theorem Zg {a}{vs}{h}{Q} :
  Wp (rN a vs) h Q↔∃c g base e,h.get a.block=some (.cells c g base e)/\g≠0/\a.off+vs.length<=c.length/\vs.all fk=true/\Q () (h.wj a.block (aM c a.off vs) g base e):=by
 constructor
 .rintro⟨x,h',e,q⟩
  grind [rN]
 .rintro⟨c,g,b,el,hg,h1,h2,h3,q⟩;exact⟨(),_,by unfold rN;grind,q⟩
theorem JP {e}{cs}{h}{Q}:Wp (iI none e cs) h Q↔cs.all fk=true/\Q h.next (h.new e cs):=by
 constructor
 .rintro⟨x,h',he,q⟩
  grind [iI]
 .rintro⟨hc,q⟩;exact⟨_,_,by unfold iI;rw[By hc],q⟩
theorem PF {k}{e}{cs}{h}{Q} :
  Wp (iI (some k) e cs) h Q↔cs.all fk=true/\h.used k=false/\k<h.next/\h.get k=none/\Q k (h.cM k h.next e cs):=by
 constructor
 .rintro⟨x,h',he,q⟩;unfold iI at he;split at he
  .rename_i hc;simp only at he;split at he
   .rename_i hd;cases he;simp_all
   .cases he
  .cases he
 .rintro⟨hc,h1,h2,h3,q⟩;exact⟨_,_,by unfold iI;grind,q⟩
def RF {n}{h}{Q}:Wp (dP n) h Q↔Q h.next { h with next:=h.next+n }:=
 ⟨λ⟨_,_,e,q⟩=>by cases e;exact q,λq=>⟨_,_,rfl,q⟩⟩
theorem adt {l}{n:Nat}{cs}{i}{h}{v}{x}{Q}(h1:0<=i)(h2:i<(n:Int))(hv:cs[i.toNat]?=some v)(hx:D6 l v=some x)(q:Q x h):Wp (MV l n cs i) h Q:=
 ⟨x,h,by unfold MV;grind,q⟩
theorem je {s}{i}{h}{Q}:Wp (lj s i) h Q↔∃b,0<=i/\s[i.toNat]?=some b/\Q b h:=by
 constructor
 .rintro⟨x,h',e,q⟩
  grind [lj]
 .rintro⟨b,hi,hb,q⟩;exact⟨b,h,by unfold lj;rw[By hi,hb],q⟩
theorem gj {s}{lo hi}{h}{Q}:Wp (im s lo hi) h Q↔0<=lo/\lo<=hi/\hi<=s.size/\Q (s.extract lo.toNat hi.toNat) h:=by
 constructor
 .rintro⟨x,h',e,q⟩
  grind [im,D9]
 .rintro⟨h1,h2,h3,q⟩;exact⟨_,h,by unfold im;rw[By ⟨h1,h2,h3⟩,D9],q⟩
theorem zY {s}{i}{z}{h}{Q}:Wp (mz s i z) h Q↔∃a,s.a=some a/\0<=i/\i<s.len/\Q (a.plus (i.toNat*z)) h:=by
 constructor
 .rintro⟨x,h',e,q⟩
  grind [mz]
 .rintro⟨a,ha,h1,h2,q⟩;exact⟨_,h,by unfold mz;grind,q⟩
theorem Ns {x y}{h}{Q}:Wp (kc x y) h Q↔x.size+y.size<=da/\Q (x++y) h:=by
 constructor
 .rintro⟨z,h',e,q⟩
  grind [kc]
 .rintro⟨hc,q⟩;exact⟨_,h,by unfold kc;rw[By hc],q⟩
theorem Mf {v}{h}{Q}:Wp (kR v) h Q↔(v=.nilIface/\Q true h)\/(∃t u,v=.iface t u/\Q false h):=by
 constructor
 .rintro⟨x,h',e,q⟩;unfold kR at e
  grind
 .rintro (⟨rfl,q⟩|⟨t,u,rfl,q⟩)
  .exact⟨true,h,rfl,q⟩
  .exact⟨false,h,rfl,q⟩
structure WF (h:ai):Prop where
 get:∀j,h.next<=j->h.get j=none
 used:∀j,h.next<=j->h.used j=false
 jo:∀j c g b e,h.get j=some (.cells c g b e)->g<=h.next
 maps:∀j,h.used j=false->h.jz j=none
theorem cu {j n:Nat}{b}(h:cond (Nat.beq j n) true b=false):j≠n/\b=false:=by
 rw[bf] at h;grind
def WF.mlt {h}(hw:WF h){j}{x}(hx:h.jz j=some x):j<h.next:=by
 by_cases hj:j<h.next
 .exact hj
 .rw[hw.maps j (hw.used j (by omega))] at hx;cases hx
structure Fr (X:Nat->Prop) (h h':ai):Prop where
 wf:WF h'
 next:h.next<=h'.next
 cells:∀j c g b e,h.get j=some (.cells c g b e)->(X g->g=0)->h'.get j=some (.cells c g b e)
 qI:∀g,g<=h.next->(X g->g=0)->h'.qI g=h.qI g
 used:∀j,j<h.next->h'.used j=h.used j
 none:∀j,j<h.next->h.get j=none->h'.get j=none
 maps:∀j x,h.jz j=some x->¬X (j+1)->h'.jz j=some x
def Fr.refl {X}{h}(hw:WF h):Fr X h h:=⟨hw,abi _,λ_ _ _ _ _ e _=>e,λ_ _ _=>rfl,λ_ _=>rfl,λ_ _ e=>e,λ_ _ e _=>e⟩
theorem Fr.trans {X Y}{h h1 h2}(hw:WF h)(a:Fr X h h1)(b:Fr Y h1 h2)(hy:∀g,Y g->g≠0->X g\/h.next<g):Fr X h h2:=by
 refine⟨b.wf,acY a.next b.next,?_,?_,?_,?_,λj x hj hx=>?_⟩
 .intro j c g bs e hj hg;refine b.cells j c g bs e (a.cells j c g bs e hj hg) λhm=>?_;by_cases h0:g=0
  .exact h0
  .rcases hy g hm h0 with h3|h3
   .exact hg h3
   .have:=hw.jo j c g bs e hj;omega
 .intro g hg hx;have hx1:Y g->g=0:=λhm=>by
   grind
  rw[b.qI g (acY hg a.next) hx1,a.qI g hg hx]
 .intro j hj;rw[b.used j (amX hj a.next),a.used j hj]
 .intro j hj hn;exact b.none j (amX hj a.next) (a.none j hj hn)
 .have hlt:=hw.mlt hj;refine b.maps j x (a.maps j x hj hx) λhy2=>?_
  grind
def Fr.mono {X Y}{h h'}(hw:WF h)(a:Fr X h h')(hs:∀g,X g->g≠0->Y g\/h.next<g):Fr Y h h':=
 Fr.trans hw (Fr.refl hw) a hs
theorem lC (j:Nat):Nat.beq j j=true:=al3 j
theorem cQ {i j:Nat}(h:i≠j):Nat.beq i j=false:=by
 grind [absurd,Nat.eq_of_beq_eq_true]
def FH {h:ai}{b}{c}{g base}{e}:(h.wj b c g base e).get b=some (.cells c g base e):=by
 simp[ai.wj,lC]
def RG {h:ai}{b j}{c}{g base}{e}{c'}{g' b'}{e'}(hj:h.get j=some (.cells c' g' b' e'))(hg:g'≠g)(hb:j≠b) :
  (h.wj b c g base e).get j=some (.cells c' g' b' e'):=by
 simp[ai.wj,cQ hb,hj,cQ hg]
theorem yI {h:ai}{b j}{c}{g base}{e}{k}(hj:(h.wj b c g base e).get j=some k):(j=b/\k=.cells c g base e)\/(j≠b/\h.get j=some k):=by
 unfold ai.wj at hj;simp at hj;by_cases hb:j=b
 .simp_all
 grind [cQ]
theorem WF.wj {h}(hw:WF h){b}{c c0}{g base base0}{e e0}(hb:h.get b=some (.cells c0 g base0 e0)):WF (h.wj b c g base e):=by
 have hlt:b<h.next:=by
  by_cases hx:b<h.next
  .exact hx
  .rw[hw.get b (by omega)] at hb;cases hb
 refine⟨λj hj=>?_,hw.used,λj c' g' b' e' hj=>?_,hw.maps⟩
 .have h0:=hw.get j hj;have hj:h.next<=j:=hj
  cases hq:(h.wj b c g base e).get j with
  |none=>rfl
  |some k=>
   rcases yI hq with⟨h1,_⟩|⟨_,h1⟩
   .omega
   grind
 .rcases yI hj with⟨_,h1⟩|⟨_,h1⟩
  .cases h1;exact hw.jo _ _ _ _ _ hb
  .exact hw.jo _ _ _ _ _ h1
theorem Fr.wj {h}(hw:WF h){b}{c c0}{g base base0}{e e0}(h0:g≠0)(hb:h.get b=some (.cells c0 g base0 e0)):Fr (·=g) h (h.wj b c g base e):=by
 refine⟨hw.wj hb,abi _,?_,λ_ _ _=>rfl,λ_ _=>rfl,?_,λ_ _ e _=>e⟩
 .intro j c' g' b' e' hj hg;have hg:g'≠g:=λe1=>h0 (by rw[<-e1];exact hg e1);refine RG hj hg λhjb=>?_
  grind
 .intro j hj hn;cases hq:(h.wj b c g base e).get j with
  |none=>rfl
  |some k=>
   rcases yI hq with⟨h1,_⟩|⟨_,h1⟩
   .grind
   grind
def qX {h:ai}{nm nx}{e}{cs}:(h.cM nm nx e cs).get nm=some (.cells cs (nm+1) 0 e):=by
 simp[ai.cM,lC]
theorem ie {h:ai}{nm nx j}{e}{cs}(hj:j≠nm):(h.cM nm nx e cs).get j=h.get j:=by
 simp[ai.cM,cQ hj]
def Lo {h:ai}{nm nx}{e}{cs}:(h.cM nm nx e cs).qI (nm+1)=cs.length:=by
 simp[ai.cM,lC]
def BG {h:ai}{nm nx g}{e}{cs}(hg:g≠nm+1):(h.cM nm nx e cs).qI g=h.qI g:=by
 simp[ai.cM,cQ hg]
def WF.cM {h}(hw:WF h){nm nx}(h1:nm<nx)(h2:h.next<=nx){e}{cs}:WF (h.cM nm nx e cs):=by
 refine⟨λj hj=>?_,λj hj=>?_,λj c g b e' hj=>?_,λj hj=>hw.maps j (cu hj).2⟩
 .have hj:nx<=j:=hj;rw[ie (by omega)];exact hw.get j (by omega)
 .have hj:nx<=j:=hj;simp[ai.cM,cQ (show j≠nm by omega)];exact hw.used j (by omega)
 .by_cases hn:j=nm
  .subst hn;rw[qX] at hj;cases hj;exact h1
  .rw[ie hn] at hj;exact acY (hw.jo _ _ _ _ _ hj) h2
theorem WF.new {h}(hw:WF h){e}{cs}:WF (h.new e cs):=hw.cM (ais _) (ane _)
theorem Fr.new {h}(hw:WF h){e}{cs}:Fr (λ_=>False) h (h.new e cs):=by
 refine⟨hw.new,ane _,?_,?_,?_,?_,λ_ _ e _=>e⟩
 .intro j c g b e' hj _;rw[ai.new,ie]
  .exact hj
  .intro hn;subst hn;rw[hw.get _ (abi _)] at hj;cases hj
 .intro g hg _;exact BG (by omega)
 .intro j hj;simp[ai.new,ai.cM,cQ (show j≠h.next by omega)]
 grind [ai.new,ai.new,ie]
def WF.dP {h}(hw:WF h){n}:WF { h with next:=h.next+n }:=
 ⟨λj hj=>hw.get j (by simp at hj;omega),λj hj=>hw.used j (by simp at hj;omega),λj c g b e hj=>acY (hw.jo j c g b e hj) (by simp),λj hj=>hw.maps j hj⟩
def Fr.dP {h}(hw:WF h){n}:Fr (λ_=>False) h { h with next:=h.next+n }:=
 ⟨hw.dP,by simp,λ_ _ _ _ _ e _=>e,λ_ _ _=>rfl,λ_ _=>rfl,λ_ _ e=>e,λ_ _ e _=>e⟩
theorem Fr.cM {X}{h0 h}(hw:WF h0)(a:Fr X h0 h){k}(hk:h0.next<=k)(hk2:k<h.next){e}{cs}:Fr X h0 (h.cM k h.next e cs):=by
 refine⟨a.wf.cM hk2 (abi _),a.next,?_,?_,?_,?_,λj x hj hx=>a.maps j x hj hx⟩
 .intro j c g b e' hj hg;have:=a.cells j c g b e' hj hg;by_cases hn:j=k
  .subst hn;rw[hw.get j hk] at hj;cases hj
  grind [ie]
 .intro g hg hx;rw[BG (by omega)];exact a.qI g hg hx
 .intro j hj;have:j≠k:=by omega
  simp[ai.cM,cQ this];exact a.used j hj
 .intro j hj hn;rw[ie (by omega)];exact a.none j hj hn
def uq (h:ai)(s:Sl)(sz:Nat)(e:κ)(cs:δ)(g:Nat):Prop:=
 cs.length=s.len*sz/\((s=⟨none,0,0⟩/\g=0)\/(0<g/\g<=h.next/\(s.cap=0\/s.cap=s.len+1)/\∃b base,s.a=some ⟨b,0,none⟩/\h.get b=some (.cells cs g base e)/\h.qI g=base+cs.length))
def uq.nil {h}{sz}{e}:uq h ⟨none,0,0⟩ sz e [] 0:=⟨by simp,.inl ⟨rfl,rfl⟩⟩
def uq.fr {h h'}{s}{sz}{e}{cs}{g}{X}(o:uq h s sz e cs g)(f:Fr X h h')(hg:X g->g=0):uq h' s sz e cs g:=by
 obtain⟨h1,h2⟩:=o;refine⟨h1,?_⟩;rcases h2 with h2|⟨h2,h3,h4,b,base,h5,h6,h7⟩
 .exact .inl h2
 .exact .inr ⟨h2,acY h3 f.next,h4,b,base,h5,f.cells _ _ _ _ _ h6 hg,by rw[f.qI g h3 hg];exact h7⟩
theorem uq.ar {h}{s}{sz}{e}{cs}{g}(o:uq h s sz e cs g)(hn:s.len≠0) :
  ∃b base,s.a=some ⟨b,0,none⟩/\h.get b=some (.cells cs g base e)/\g≠0:=by
 obtain⟨_,h2⟩:=o
 grind
theorem uq.le {h}{s}{sz}{e}{cs}{g}(o:uq h s sz e cs g):g<=h.next:=by
 obtain⟨_,h2⟩:=o
 grind
def uq.wj {h}{s}{sz}{e}{cs cs'}{g b base}(o:uq h s sz e cs g)(hl:cs'.length=cs.length)(hn:s.len≠0)
  (ha:s.a=some ⟨b,0,none⟩) (hb:h.get b=some (.cells cs g base e)):uq (h.wj b cs' g base e) s sz e cs' g:=by
 obtain⟨h1,h2⟩:=o;rcases h2 with⟨rfl,_⟩|⟨h2,h3,h4,b2,base2,h5,h6,h7⟩
 .exact absurd rfl hn
 .rw[ha] at h5;cases h5;rw[hb] at h6;cases h6;exact⟨by omega,.inr ⟨h2,h3,h4,b,base,ha,FH,by rw[hl];exact h7⟩⟩
theorem uq.app {h}{s}{sz}{e}{cs new}{g n}{st}{Q}(o:uq h s sz e cs g)(hw:WF h)(hn:n≠0)(hl:new.length=n*sz)(hb:s.len+n<=da)
  (hq:∀s' h' g',s'.len=s.len+n->s'.cap=0->uq h' s' sz e (cs++new) g'->(g'=g/\g≠0\/g'=h.next+1)->Fr (·=g) h h'->Q s' h'):Wp (Ago.app st s sz e n new) h Q:=by
 obtain⟨h1,h2⟩:=o;have hnx:=hw.get h.next (abi _)
 have key:Ago.app st s sz e n new h=AW st s sz e n new h:=by unfold Ago.app;simp[hnx]
 suffices hh:∃s' h' ,AW st s sz e n new h=some (s',h')/\Q s' h' by
  obtain⟨s',h',e1,e2⟩:=hh;exact⟨s',h',by rw[key];exact e1,e2⟩
 have fresh:uq (h.new e (cs++new)) ⟨some ⟨h.next,0,none⟩,s.len+n,0⟩ sz e (cs++new) (h.next+1):=
  ⟨by grind,.inr ⟨by omega,by simp[ai.new,ai.cM],.inl rfl,h.next,0,rfl,qX,by rw[ai.new,Lo];simp⟩⟩
 have ffr:Fr (·=g) h (h.new e (cs++new)):=(Fr.new hw).mono hw (λ_ hx _=>hx.elim)
 rcases h2 with⟨rfl,rfl⟩|⟨h2,h3,h4,b,base,h5,h6,h7⟩
 .have hc:cs=[]:=ac4 (by simpa using h1);subst hc;refine⟨_,_,?_,hq _ _ _ rfl rfl fresh (.inr rfl) ffr⟩;unfold AW
  grind
 .have hcells:bu h (some ⟨b,0,none⟩) (s.len*sz)=some cs:=by grind [bu]
  rcases h4 with h4|h4
  ·-- in the same group
   refine⟨⟨some ⟨h.next,0,none⟩,s.len+n,0⟩,{ h with get:=λj=>cond (Nat.beq j h.next) (some (.cells (cs++new) g (base+0) e)) (h.get j),next:=h.next+1,qI:=λg'=>cond (Nat.beq g' g) (base+0+s.len*sz+new.length) (h.qI g'),used:=λj=>cond (Nat.beq j h.next) true (h.used j) },?_,hq _ _ g rfl rfl ?_ (.inl ⟨rfl,by omega⟩) ?_⟩
   .unfold AW
    grind [D8]
   .refine⟨by grind,.inr ⟨h2,by simp;omega,.inl rfl,h.next,base+0,rfl,by simp[lC],?_⟩⟩
    grind [lC]
   .refine⟨⟨λj hj=>?_,λj hj=>?_,λj c g' b' e' hj=>?_,λj hj=>hw.maps j (cu hj).2⟩,ane _,?_,?_,?_,?_,λ_ _ e _=>e⟩
    .simp at hj;simp[cQ (show j≠h.next by omega)];exact hw.get j (by omega)
    .simp at hj;simp[cQ (show j≠h.next by omega)];exact hw.used j (by omega)
    .simp only at hj;by_cases hjn:j=h.next
     .grind
     .simp[cQ hjn] at hj;have:=hw.jo _ _ _ _ _ hj;simp;omega
    .grind [cQ]
    .grind [cQ]
    .grind [cQ]
    grind [cQ]
  .refine⟨_,_,?_,hq _ _ _ rfl rfl fresh (.inr rfl) ffr⟩;unfold AW
   grind
theorem eG {enc:α->δ}{sz}(he:∀x,(enc x).length=sz):∀(L:List α),(L.flatMap enc).length=L.length*sz
 |[]=>by simp
 |x::L=>by rw[acD,aby,he,eG he L,abK,ale,aoy,ao9]
theorem Mg {enc:α->δ}{sz}(he:∀x,(enc x).length=sz):∀(L:List α) i ,(L.flatMap enc).drop (i*sz)=(L.drop i).flatMap enc
 |L,0=>by simp
 |[],i+1=>by simp
 |x::L,i+1=>by
  rw[acD,List.drop_succ_cons,<-Mg he L i,ale,aoy,ao9,<-anP]
  grind
theorem V7 {enc:α->δ}{sz}(he:∀x,(enc x).length=sz){L:List α}{i}{x}(hi:L[i]?=some x):((L.flatMap enc).drop (i*sz)).take sz=enc x:=by
 grind [Mg,List.getElem?_eq_some_iff,List.drop_eq_getElem_cons,List.take_left]
theorem sA {enc}{sz}(he:∀x,(enc x).length=sz){L:List α}{i}{x x'}(hi:L[i]?=some x){o}{vs}(ho:o+vs.length<=sz)(hx:enc x'=aM (enc x) o vs) :
  aM (L.flatMap enc) (i*sz+o) vs=(L.set i x').flatMap enc:=by
 have hlt:=(List.getElem?_eq_some_iff.1 hi).1;have hL:L=L.take i++x::L.drop (i+1):=by
  grind [List.drop_eq_getElem_cons,List.getElem?_eq_some_iff,List.take_append_drop]
 have hs:L.set i x'=L.take i++x'::L.drop (i+1):=by grind
 have hl:((L.take i).flatMap enc).length=i*sz:=by grind [eG,List.length_take,Nat.min_eq_left,Nat.le_of_lt]
 rw[hs,alX,acD,hx]
 conv=>lhs;rw[hL]
 rw[alX,acD];unfold aM;rw[<-hl,List.take_length_add_append,aod,List.drop_length_add_append,List.take_append_of_le_length (by rw[he];omega),List.drop_append_of_le_length (by rw[he];omega)];simp
structure LB (h:ai) (b:Nat) (cs:δ) (e:κ):Prop where
 get:h.get b=some (.cells cs (b+1) 0 e)
theorem LB.new {h:ai}{e}{cs}:LB (h.new e cs) h.next cs e:=⟨qX⟩
def LB.fr {h h'}{b}{cs}{e}{X}(l:LB h b cs e)(f:Fr X h h')(hx:¬X (b+1)):LB h' b cs e:=⟨f.cells _ _ _ _ _ l.get λhm=>absurd hm hx⟩
def LB.lt {h}{b}{cs}{e}(l:LB h b cs e)(hw:WF h):b<h.next:=by
 have:=hw.jo _ _ _ _ _ l.get;omega
def LB.st {h}{b o}{cs vs}{e}(l:LB h b cs e)(hw:WF h)(ho:o+vs.length<=cs.length)(hv:vs.all fk=true){Q}
  (hq:∀h',LB h' b (aM cs o vs) e->Fr (·=b+1) h h'->Q () h'):Wp (rN ⟨b,o,none⟩ vs) h Q:=by
 rw[Zg];exact⟨cs,b+1,0,e,l.get,by omega,ho,hv,hq _ ⟨FH⟩ (Fr.wj hw (by omega) l.get)⟩
def LB.ld {h}{b o}{cs}{e}(l:LB h b cs e){lf}{v}{x}(hv:cs[o]?=some v)(hx:D6 lf v=some x):h.ld lf b o=some x:=by
 unfold ai.ld;rw[l.get];simp[hv];exact hx
theorem LB.gh {h}{b o}{cs}{e}(l:LB h b cs e){ls}{x}(hl:o+ls.length<=cs.length)(hx:D7 ls ((cs.drop o).take ls.length)=some x):h.gh ls b o=some x:=by
 unfold ai.gh;rw[l.get];grind
def Fr.fresh {X Y}{h0 h h'}(hw:WF h0)(a:Fr X h0 h)(b:Fr Y h h')(hg:∀g,Y g->X g\/h0.next<g):Fr X h0 h':=a.trans hw b λg hy _=>hg g hy
theorem RH {e}{z}{l c:Int}{h}{Q}(h1:0<=l)(h2:l<=c)(h3:c<=da)(q:Q ⟨some ⟨h.next,0,none⟩,l.toNat,c.toNat+1⟩ (h.new e (List.replicate c.toNat z).flatten))(hz:z.all fk=true:=by rfl):Wp (w9 none e z l c) h Q:=by
 have hs:(List.replicate c.toNat z).flatten.all fk=true:=by
  grind
 exact⟨_,_,by unfold w9 iI;grind,q⟩
theorem Zh {k}{e}{z}{l c:Int}{h}{Q}(h1:0<=l)(h2:l<=c)(h3:c<=da)(k1:h.used k=false)(k2:k<h.next)(k3:h.get k=none)
  (q:Q ⟨some ⟨k,0,none⟩,l.toNat,c.toNat+1⟩ (h.cM k h.next e (List.replicate c.toNat z).flatten)) (hz:z.all fk=true:=by rfl):Wp (w9 (some k) e z l c) h Q:=by
 have hs:(List.replicate c.toNat z).flatten.all fk=true:=by
  grind
 exact⟨_,_,by unfold w9 iI;grind,q⟩
theorem sB {s}{lo hi:Int}{e}{z}{h}{Q}(h1:0<=lo)(h2:lo<=hi)(h3:hi<=s.len)(h4:lO h s e=true)
  (q:Q ⟨s.a.map (·.plus (lo.toNat*z)),hi.toNat-lo.toNat,s.cap-(if s.cap=0 then 0 else lo.toNat)⟩ h):Wp (iM s lo hi e z) h Q:=
 ⟨_,_,by unfold iM;grind,q⟩
theorem JQ {m:M α}{as}{h}{Q}(hm:Wp m h λx h'=>(∀a,some a∈as->h'.get a.block=h.get a.block)/\Q x h'):Wp (tX as m) h Q:=by
 obtain⟨x,h',e,hs,q⟩:=hm;refine⟨x,h',?_,q⟩;have:sameAt h h' as=true:=by
  clear e q
  induction as with
  |nil=>rfl
  |cons a r ih=>
   have ih:=ih λa ha=>hs a (BY _ ha);cases a with
   |none=>exact ih
   |some b=>
    have hb:=hs b (by simp);unfold sameAt;cases agh h h' b with
    |isTrue _=>exact ih
    |isFalse hn=>exact absurd (gN.of hb) hn
 grind [tX]
theorem iA {cs}{x}{c}{h}{Q}(hx:yX cs (MX x)=some c)(q:Q c h):Wp (mr cs x) h Q:=
 ⟨c,h,by unfold mr;rw[hx],q⟩
theorem aik {k k'}(h:Q7 k k'=true):k=k':=by cases k<;>cases k'<;>simp_all[Q7,TE]
theorem kS {a b}(h:qk a b=true):a=b:=by
 rw[sM] at h;have h:=beq_iff_eq.1 h;rw[ByteArray.toList_eq,ByteArray.toList_eq] at h;cases a;simp_all
theorem Ub {v u}(h:Fj v u=true):v=u:=by
 cases v<;>cases u<;>simp only[Fj,abw,aca] at h<;>try cases h
 .grind
 .grind [aik]
 .rw[kS h]
theorem Uc:∀{xs ys},Bq xs ys=true->xs=ys
 |[],[],_=>rfl
 |[],_::_,h=>by cases h
 |_::_,[],h=>by cases h
 |x::xs,y::ys,h=>by
  simp[Bq,abw] at h;rw[Ub h.1,Uc h.2]
theorem RI {x y}(h:DO x y=true):x=y:=by
 unfold DO at h
 grind [Array.toList_inj,Uc,Ub]
theorem zZ {k v k'}{c}:∀{es},Br k' (sO k v c es)=if DO k' k then some v else Br k' es
 |[]=>by grind [sO,Br,iq,DO]
 |e::r=>by
  have ih:=zZ (k:=k) (v:=v) (k':=k') (c:=c) (es:=r)
  grind [sO,DO,Br,iq,RI]
theorem FI {k v}{c}:∀{es},(sO k v c es).length=if (iq k es).isSome then es.length else es.length+1
 |[]=>rfl
 |e::r=>by
  have ih:=FI (k:=k) (v:=v) (c:=c) (es:=r)
  grind [DO,sO,iq,List.length_cons]
def xj (c:Nat):List H6->Prop
 |[]=>True
 |e::r=>e.born<c/\(∀x∈r,x.born≠e.born)/\xj c r
def xj.mono {c c'}(hc:c<=c'):∀{es},xj c es->xj c' es
 |[],_=>trivial
 |e::r,h=>⟨amX h.1 hc,h.2.1,xj.mono hc h.2.2⟩
theorem Mh {k v}{c}:∀{es},∀x∈sO k v c es,(∃y∈es,x.born=y.born)\/x.born=c
 |[]=>by simp[sO]
 |e::r=>by
  intro x hx;simp[sO] at hx;split at hx
  .grind
  .rcases List.mem_cons.1 hx with rfl|hx
   .grind
   .rcases Mh x hx with⟨y,h1,h2⟩|h1
    .grind
    .exact .inr h1
theorem xj.put {k v}{c c'}(hc:c<=c'):∀{es},xj c es->(iq k es=none->c<c')->xj c' (sO k v c es)
 |[],_,h=>⟨h rfl,by simp,trivial⟩
 |e::r,hs,h=>by
  simp[sO];simp[iq] at h;cases hq:DO k e.key
  .rw[hq] at h;refine⟨amX hs.1 hc,λx hx=>?_,xj.put hc hs.2.2 h⟩;rcases Mh x hx with⟨y,h1,h2⟩|h1
   .rw[h2];exact hs.2.1 y h1
   .rw[h1];have:=hs.1;omega
  .exact⟨amX hs.1 hc,hs.2.1,hs.2.2.mono hc⟩
structure MB (h:ai) (m:Nat) (kt:κ) (f:ξ->Option ξ) (n:Nat):Prop where
 ex:∃c es,h.jz m=some ⟨kt,c,es⟩/\xj c es/\(∀k,Br k es=f k)/\es.length=n
def MB.lt {h}{m}{kt}{f}{n}(l:MB h m kt f n)(hw:WF h):m<h.next:=by
 obtain⟨c,es,h1,_⟩:=l.ex;exact hw.mlt h1
def MB.fr {h h'}{m}{kt}{f}{n}{X}(l:MB h m kt f n)(fr:Fr X h h')(hx:¬X (m+1)):MB h' m kt f n:=by
 obtain⟨c,es,h1,h2⟩:=l.ex;exact⟨c,es,fr.maps _ _ h1 hx,h2⟩
def JR {h:ai}{m}{kt}{c}{es}(hm:h.jz m=some ⟨kt,c,es⟩):h.Fk kt m=some (c,es):=by
 unfold ai.Fk;rw[hm];simp[lC]
theorem Zi {kt}{h}(hw:WF h){Q}(hq:∀h',MB h' h.next kt (λ_=>none) 0->Fr (λ_=>False) h h'->Q h.next h'):Wp (Bs kt) h Q:=by
 refine⟨_,_,rfl,hq _ ⟨0,[],by simp[ai.o8,lC],trivial,λ_=>rfl,rfl⟩ ⟨⟨λj hj=>?_,λj hj=>?_,λj c g b e hj=>?_,λj hj=>?_⟩,ane _,λ_ _ _ _ _ e _=>e,λ_ _ _=>rfl,λj hj=>?_,λ_ _ e=>e,λj x hj _=>?_⟩⟩
 .exact hw.get j (by simp at hj;omega)
 .simp at hj;simp[cQ (show j≠h.next by omega)];exact hw.used j (by omega)
 .exact acY (hw.jo j c g b e hj) (by simp)
 .simp[ai.o8,cQ (cu hj).1];exact hw.maps j (cu hj).2
 .grind [cQ]
 .have:=hw.mlt hj;simp[ai.o8,cQ (show j≠h.next by omega)];exact hj
theorem Fr.o8 {h}(hw:WF h){m}{x y}(hm:h.jz m=some y):Fr (·=m+1) h (h.o8 m x):=by
 refine⟨⟨hw.get,hw.used,hw.jo,λj hj=>?_⟩,abi _,λ_ _ _ _ _ e _=>e,λ_ _ _=>rfl,λ_ _=>rfl,λ_ _ e=>e,λj x hj hx=>?_⟩
 .have hj:h.used j=false:=hj;have hn:=hw.maps j hj;simp[ai.o8,cQ (show j≠m from λe=>by grind)];exact hn
 grind [ai.o8,cQ]
theorem MB.an9 {h}{m}{kt}{f}{n}(l:MB h m kt f n){T}{z}{k}{Q}
  (h1:∀v,f k=some v->∃x,Ox T v=some x/\Q (true,x) h) (h2:f k=none->Q (false,z) h):Wp (vx kt T z (some m) k) h Q:=by
 obtain⟨c,es,e1,_,e2,_⟩:=l.ex;unfold Wp vx;simp only[JR e1,e2]
 grind
def Ek (f:ξ->Option ξ)(k v:ξ):ξ->Option ξ:=λk'=>if DO k' k then some v else f k'
theorem MB.aoa {h}{m}{kt}{f}{n}(l:MB h m kt f n)(hw:WF h){k v}{Q}
  (hq:∀h',MB h' m kt (Ek f k v) (if (f k).isSome then n else n+1)->Fr (·=m+1) h h'->Q () h'):Wp (DP kt (some m) k v) h Q:=by
 have hlt:=l.lt hw;obtain⟨c,es,e1,e3,e2,e4⟩:=l.ex;unfold Wp DP;simp only[JR e1];have hk:(iq k es).isSome=(f k).isSome:=by grind [Br,iq]
 refine⟨(),h.o8 m ⟨kt,(match iq k es with|some _=>c|none=>c+1),sO k v c es⟩,rfl,hq _ ⟨_,_,by simp[ai.o8,lC];exact⟨rfl,rfl⟩,?_,λk'=>?_,?_⟩ (Fr.o8 hw e1)⟩
 .cases hm:iq k es with
  |none=>exact e3.put (ane _) λ_=>ais _
  |some x=>exact e3.put (abi _) λhn=>by rw[hm] at hn;cases hn
 .rw[zZ,e2];rfl
 .rw[FI,hk,e4]
theorem MB.len {h}{m}{kt}{f}{n}(l:MB h m kt f n){Q}(q:Q n h):Wp (DQ (some m)) h Q:=by
 obtain⟨c,es,e1,_,_,e4⟩:=l.ex;exact⟨n,h,by grind [DQ],q⟩
def FJ (h:ai)(m:Nat)(k:ξ)(st:Nat):Prop:=∃x,h.jz m=some x/\∃e,iq k x.es=some e/\e.born=st
def FJ.fr {h h'}{m}{k}{st}{X}(l:FJ h m k st)(fr:Fr X h h')(hx:¬X (m+1)):FJ h' m k st:=by
 obtain⟨x,h1,h2⟩:=l;exact⟨x,fr.maps _ _ h1 hx,h2⟩
def JS {k v}{c}(hk:DO k k=true):∀{es},iq k es=none->iq k (sO k v c es)=some ⟨k,v,c⟩
 |[],_=>by simp[sO,iq,hk]
 |e::r,h=>by
  simp[iq] at h;simp[sO];cases hq:DO k e.key
  .rw[hq] at h;simp[iq,hq];exact JS hk h
  .rw[hq] at h;cases h
theorem MB.entry {h}{m}{kt}{f}{n}(l:MB h m kt f n)(hw:WF h){T}{z}{k}(hk:DO k k=true){Q}
  (h1:∀v,f k=some v->∃x,Ox T v=some x/\∀st,FJ h m k st->Q (x,st) h)
  (h2:f k=none->∀h' st,MB h' m kt (Ek f k (GH T z)) (n+1)->FJ h' m k st->Fr (·=m+1) h h'->Q (z,st) h'):Wp (zK kt T z (some m) k) h Q:=by
 have hlt:=l.lt hw;obtain⟨c,es,e1,e3,e2,e4⟩:=l.ex;unfold Wp zK;simp only[JR e1];cases hm:iq k es with
 |none=>
  have hf:f k=none:=by grind [Br]
  refine⟨_,_,rfl,h2 hf _ _ ⟨c+1,sO k (GH T z) c es,by simp[ai.o8,lC],e3.put (ane _) λ_=>ais _,λk'=>?_,?_⟩ ⟨⟨kt,c+1,sO k (GH T z) c es⟩,by simp[ai.o8,lC],⟨k,GH T z,c⟩,JS hk hm,rfl⟩ (Fr.o8 hw e1)⟩
  .rw[zZ,e2];rfl
  grind [FI]
 |some e=>
  have hf:f k=some e.val:=by grind [Br]
  obtain⟨x,hx,q⟩:=h1 _ hf;simp only[hx];exact⟨_,_,rfl,q _ ⟨_,e1,e,hm,rfl⟩⟩
theorem JT {k v}{c}:∀{es} {e},xj c es->iq k es=some e->LX e.born v es=some (sO k v c es)
 |[],e,_,h=>by cases h
 |x::r,e,hs,h=>by
  simp[iq] at h;simp[LX,sO];cases hq:DO k x.key
  .rw[hq] at h;have hmem:∀{es:List H6},iq k es=some e->e∈es:=by
    intro es
    induction es with
    |nil=>intro h;cases h
    |cons y r ih=>
     grind [iq,List.mem_cons_of_mem]
   have hne:=hs.2.1 e (hmem h);rw[cQ (λe2=>hne e2.symm)];simp;rw[JT hs.2.2 h]
  grind [lC,RI]
theorem MB.store {h}{m}{kt}{f}{n}(l:MB h m kt f n)(hw:WF h){k v}{st}(hs:FJ h m k st){Q}
  (hq:∀h',MB h' m kt (Ek f k v) n->Fr (·=m+1) h h'->Q () h'):Wp (zL (some m) (st:Int) v) h Q:=by
 have hlt:=l.lt hw;obtain⟨c,es,e1,e3,e2,e4⟩:=l.ex;obtain⟨x,h1,e,h2,rfl⟩:=hs;rw[e1] at h1;cases h1;have hp:=JT (v:=v) e3 h2;have hd:decide (0<=((e.born:Nat):Int))=true:=by simp
 unfold Wp zL;simp only[e1,hd,aba,hp];refine⟨(),h.o8 m ⟨kt,c,sO k v c es⟩,rfl,hq _ ⟨c,sO k v c es,by simp[ai.o8,lC],e3.put (abi _) (λhn=>by grind),λk'=>?_,?_⟩ (Fr.o8 hw e1)⟩
 .rw[zZ,e2];rfl
 grind [FI]
end Go.Ago
