
import Derived.Test.YtengdffgmpghgaaGreatDoorAgoI
set_option linter.all false
namespace Go.Ago
open Go
variable {α β:Type}
def Wp (m:M α)(h:ab)(Q:α->ab->Prop):Prop:=∃x h',m h=some (x,h')/\Q x h'
theorem Wp.mono {m:M α}{h:ab}{Q Q':α->ab->Prop}(hm:Wp m h Q)(hq:∀x h',Q x h'->Q' x h'):Wp m h Q':=by
 obtain⟨x,h',e,q⟩:=hm;exact⟨x,h',e,hq _ _ q⟩
theorem ag {m:M α}{f:α->M β}{h:ab}{Q:β->ab->Prop}:Wp (sh m f) h Q↔Wp m h λx h'=>Wp (f x) h' Q:=by
 constructor
 .rintro⟨y,h2,e,q⟩;unfold sh at e;split at e
  .rename_i x h1 hm;exact⟨x,h1,hm,y,h2,e,q⟩
  .cases e
 .rintro⟨x,h1,hm,y,h2,e,q⟩;exact⟨y,h2,by unfold sh;rw[hm];exact e,q⟩
theorem Wp.bind {m:M α}{f:α->M β}{h:ab}{Q:β->ab->Prop}(hm:Wp m h λx h'=>Wp (f x) h' Q):Wp (sh m f) h Q:=ag.2 hm
theorem Wp.seq {m:M α}{f:α->M β}{h:ab}{R:α->ab->Prop}{Q:β->ab->Prop}(hm:Wp m h R)(hf:∀x h',R x h'->Wp (f x) h' Q):Wp (sh m f) h Q:=ag.2 (hm.mono hf)
theorem af {x:α}{h:ab}{Q:α->ab->Prop}:Wp (AI x) h Q↔Q x h:=
 ⟨λ⟨_,_,e,q⟩=>by cases e;exact q,λq=>⟨x,h,rfl,q⟩⟩
theorem aic {p:θ}{h:ab}{Q:Addr->ab->Prop}:Wp (nn p) h Q↔∃a,p=some a/\Q a h:=by
 constructor
 .rintro⟨x,h',e,q⟩;cases p<;>simp[nn] at e;obtain⟨rfl,rfl⟩:=e;exact⟨_,rfl,q⟩
 .rintro⟨a,rfl,q⟩;exact⟨a,h,rfl,q⟩
theorem pI {a:Addr}{h:ab}{Q:Addr->ab->Prop}:Wp (nn (some a)) h Q↔Q a h:=by simp[aic]
theorem Py {b:Bool}{h:ab}{Q:Unit->ab->Prop}:Wp (ou b) h Q↔b=true/\Q () h:=by
 constructor
 .rintro⟨x,h',e,q⟩;cases b<;>simp[ou] at e;obtain⟨rfl⟩:=e;exact⟨rfl,q⟩
 .rintro⟨rfl,q⟩;exact⟨(),h,rfl,q⟩
def ab.ld (h:ab)(l:eD)(b o:Nat):Option l.den:=
 match h.get b with
 |some (.cells c _ _ _)=>(match c[o]? with|some v=>AX l v|none=>none)
 |_=>none
theorem wj {l:eD}{a:Addr}{h:ab}{Q:l.den->ab->Prop}:Wp (ak l a) h Q↔∃x,h.ld l a.block a.off=some x/\Q x h:=by
 have key:ak l a h=(match h.ld l a.block a.off with|some x=>some (x,h)|none=>none):=by
  unfold ak ab.cell ab.ld
  grind
 constructor
 .rintro⟨x,h',e,q⟩
  grind
 .rintro⟨x,hx,q⟩;exact⟨x,h,by rw[key,hx],q⟩
def ab.ldI (h:ab)(k:IntKind)(b o:Nat):Option Int:=h.ld (.int k) b o
def ab.ldB (h:ab)(b o:Nat):Option Bool:=h.ld .bool b o
def ab.HN (h:ab)(b o:Nat):Option ζ:=h.ld .str b o
def ab.ldV (h:ab)(b o:Nat):Option Sl:=h.ld .sl b o
def ab.Es (h:ab)(b o:Nat):Option θ:=h.ld .ptr b o
theorem ql {k:IntKind}{a:Addr}{h:ab}{Q:Int->ab->Prop}:Wp (α:=Int) (ak (.int k) a) h Q↔∃x,h.ldI k a.block a.off=some x/\Q x h:=wj
theorem qm {a:Addr}{h:ab}{Q:Bool->ab->Prop}:Wp (α:=Bool) (ak .bool a) h Q↔∃x,h.ldB a.block a.off=some x/\Q x h:=wj
theorem qn {a:Addr}{h:ab}{Q:ζ->ab->Prop}:Wp (α:=ζ) (ak .str a) h Q↔∃x,h.HN a.block a.off=some x/\Q x h:=wj
theorem qo {a:Addr}{h:ab}{Q:Sl->ab->Prop}:Wp (α:=Sl) (ak .sl a) h Q↔∃x,h.ldV a.block a.off=some x/\Q x h:=wj
def ab.fG (h:ab)(ls:List eD)(b o:Nat):Option (eI ls):=
 match h.get b with
 |some (.cells c _ _ _)=>if o+ls.length<=c.length then Ao ls ((c.drop o).take ls.length) else none
 |_=>none
theorem Ci {ls:List eD}{a:Addr}{h:ab}{Q:eI ls->ab->Prop}:Wp (aE ls a) h Q↔∃x,h.fG ls a.block a.off=some x/\Q x h:=by
 have key:aE ls a h=(match h.fG ls a.block a.off with|some x=>some (x,h)|none=>none):=by
  unfold aE aX ab.fG
  grind
 constructor
 .rintro⟨x,h',e,q⟩
  grind
 .rintro⟨x,hx,q⟩;exact⟨x,h,by rw[key,hx],q⟩
theorem Jw {a:Addr}{vs:δ}{h:ab}{Q:Unit->ab->Prop} :
  Wp (bD a vs) h Q↔∃c g base e,h.get a.block=some (.cells c g base e)/\g≠0/\a.off+vs.length<=c.length/\vs.all eB=true/\Q () (h.sW a.block (bh c a.off vs) g base e):=by
 constructor
 .rintro⟨x,h',e,q⟩
  grind [bD]
 .rintro⟨c,g,b,el,hg,h1,h2,h3,q⟩;exact⟨(),_,by unfold bD;rw[hg];simp only;rw[By ⟨h1,h2,h3⟩],q⟩
theorem Bi {e:κ}{cs:δ}{h:ab}{Q:Nat->ab->Prop}:Wp (aJ none e cs) h Q↔cs.all eB=true/\Q h.next (h.new e cs):=by
 constructor
 .rintro⟨x,h',he,q⟩
  grind [aJ]
 .rintro⟨hc,q⟩;exact⟨_,_,by unfold aJ;rw[By hc],q⟩
theorem WS {k:Nat}{e:κ}{cs:δ}{h:ab}{Q:Nat->ab->Prop} :
  Wp (aJ (some k) e cs) h Q↔cs.all eB=true/\h.used k=false/\k<h.next/\h.get k=none/\Q k (h.cS k h.next e cs):=by
 constructor
 .rintro⟨x,h',he,q⟩;unfold aJ at he;split at he
  .rename_i hc;simp only at he;split at he
   .rename_i hd;cases he;exact⟨hc,hd.1,hd.2.1,by simpa using hd.2.2,q⟩
   .cases he
  .cases he
 .rintro⟨hc,h1,h2,h3,q⟩;exact⟨_,_,by unfold aJ;grind,q⟩
theorem Pz {n:Nat}{h:ab}{Q:Nat->ab->Prop}:Wp (eU n) h Q↔Q h.next { h with next:=h.next+n }:=
 ⟨λ⟨_,_,e,q⟩=>by cases e;exact q,λq=>⟨_,_,rfl,q⟩⟩
theorem RF {l:eD}{n:Nat}{cs:δ}{i:Int}{h:ab}{v:ξ}{x:l.den}{Q:l.den->ab->Prop}(h1:0<=i)(h2:i<(n:Int))(hv:cs[i.toNat]?=some v)(hx:AX l v=some x)(q:Q x h):Wp (HR l n cs i) h Q:=
 ⟨x,h,by unfold HR;rw[By ⟨h1,h2⟩,hv];simp only[hx],q⟩
theorem fA {s:ζ}{i:Int}{h:ab}{Q:UInt8->ab->Prop}:Wp (jy s i) h Q↔∃b,0<=i/\s[i.toNat]?=some b/\Q b h:=by
 constructor
 .rintro⟨x,h',e,q⟩
  grind [jy]
 .rintro⟨b,hi,hb,q⟩;exact⟨b,h,by unfold jy;rw[By hi,hb],q⟩
theorem fH {s:ζ}{lo hi:Int}{h:ab}{Q:ζ->ab->Prop}:Wp (hY s lo hi) h Q↔0<=lo/\lo<=hi/\hi<=s.size/\Q (s.extract lo.toNat hi.toNat) h:=by
 constructor
 .rintro⟨x,h',e,q⟩
  grind [hY,F9]
 .rintro⟨h1,h2,h3,q⟩;exact⟨_,h,by unfold hY;rw[By ⟨h1,h2,h3⟩,F9],q⟩
theorem Ad {s:Sl}{i:Int}{z:Nat}{h:ab}{Q:Addr->ab->Prop}:Wp (an s i z) h Q↔∃a,s.a=some a/\0<=i/\i<s.len/\Q (a.plus (i.toNat*z)) h:=by
 constructor
 .rintro⟨x,h',e,q⟩
  grind [an]
 .rintro⟨a,ha,h1,h2,q⟩;exact⟨_,h,by unfold an;rw[ha];simp only;rw[By ⟨h1,h2⟩],q⟩
theorem Jx {x y:ζ}{h:ab}{Q:ζ->ab->Prop}:Wp (kY x y) h Q↔x.size+y.size<=cT/\Q (x++y) h:=by
 constructor
 .rintro⟨z,h',e,q⟩
  grind [kY]
 .rintro⟨hc,q⟩;exact⟨_,h,by unfold kY;rw[By hc],q⟩
theorem afp {s:Sl}{z:Nat}{h:ab}{Q:δ->ab->Prop}:Wp (OU s z) h Q↔∃cs,aX h s.a (s.len*z)=some cs/\Q cs h:=by
 constructor
 .rintro⟨x,h',e,q⟩
  grind [OU]
 .rintro⟨cs,hc,q⟩;exact⟨cs,h,by unfold OU;rw[hc],q⟩
theorem IP {v:ξ}{h:ab}{Q:Bool->ab->Prop}:Wp (kJ v) h Q↔(v=.nilIface/\Q true h)\/(∃t u,v=.iface t u/\Q false h):=by
 constructor
 .rintro⟨x,h',e,q⟩;unfold kJ at e
  grind
 .rintro (⟨rfl,q⟩|⟨t,u,rfl,q⟩)
  .exact⟨true,h,rfl,q⟩
  .exact⟨false,h,rfl,q⟩
structure WF (h:ab):Prop where
 get:∀j,h.next<=j->h.get j=none
 used:∀j,h.next<=j->h.used j=false
 eJ:∀j c g b e,h.get j=some (.cells c g b e)->g<=h.next
 maps:∀j,h.next<=j->h.kZ j=none
theorem WF.mlt {h:ab}(hw:WF h){j:Nat}{x:aaj}(hx:h.kZ j=some x):j<h.next:=by
 by_cases hj:j<h.next
 .exact hj
 .rw[hw.maps j (by omega)] at hx;cases hx
structure Fr (X:Nat->Prop) (h h':ab):Prop where
 wf:WF h'
 next:h.next<=h'.next
 cells:∀j c g b e,h.get j=some (.cells c g b e)->(X g->g=0)->h'.get j=some (.cells c g b e)
 ot:∀g,g<=h.next->(X g->g=0)->h'.ot g=h.ot g
 used:∀j,j<h.next->h'.used j=h.used j
 none:∀j,j<h.next->h.get j=none->h'.get j=none
 maps:∀j x,h.kZ j=some x->¬X (j+1)->h'.kZ j=some x
theorem Fr.refl {X:Nat->Prop}{h:ab}(hw:WF h):Fr X h h:=⟨hw,aae _,λ_ _ _ _ _ e _=>e,λ_ _ _=>rfl,λ_ _=>rfl,λ_ _ e=>e,λ_ _ e _=>e⟩
theorem Fr.trans {X Y:Nat->Prop}{h h1 h2:ab}(hw:WF h)(a:Fr X h h1)(b:Fr Y h1 h2)(hy:∀g,Y g->g≠0->X g\/h.next<g):Fr X h h2:=by
 refine⟨b.wf,abi a.next b.next,?_,?_,?_,?_,λj x hj hx=>?_⟩
 .intro j c g bs e hj hg;refine b.cells j c g bs e (a.cells j c g bs e hj hg) λhm=>?_;by_cases h0:g=0
  .exact h0
  .rcases hy g hm h0 with h3|h3
   .exact hg h3
   .have:=hw.eJ j c g bs e hj;omega
 .intro g hg hx;have hx1:Y g->g=0:=λhm=>by
   grind
  rw[b.ot g (abi hg a.next) hx1,a.ot g hg hx]
 .intro j hj;rw[b.used j (aiq hj a.next),a.used j hj]
 .intro j hj hn;exact b.none j (aiq hj a.next) (a.none j hj hn)
 .have hlt:=hw.mlt hj;refine b.maps j x (a.maps j x hj hx) λhy2=>?_
  grind
theorem Fr.mono {X Y:Nat->Prop}{h h':ab}(hw:WF h)(a:Fr X h h')(hs:∀g,X g->g≠0->Y g\/h.next<g):Fr Y h h':=
 Fr.trans hw (Fr.refl hw) a hs
theorem gO (j:Nat):Nat.beq j j=true:=ahN j
theorem bw {i j:Nat}(h:i≠j):Nat.beq i j=false:=by
 grind [absurd,Nat.eq_of_beq_eq_true]
theorem xD {h:ab}{b:Nat}{c:δ}{g base:Nat}{e:κ}:(h.sW b c g base e).get b=some (.cells c g base e):=by
 simp[ab.sW,gO]
theorem PA {h:ab}{b j:Nat}{c:δ}{g base:Nat}{e:κ}{c':δ}{g' b':Nat}{e':κ}(hj:h.get j=some (.cells c' g' b' e'))(hg:g'≠g)(hb:j≠b) :
  (h.sW b c g base e).get j=some (.cells c' g' b' e'):=by
 simp[ab.sW,bw hb,hj,bw hg]
theorem wm {h:ab}{b j:Nat}{c:δ}{g base:Nat}{e:κ}{k:B4}(hj:(h.sW b c g base e).get j=some k):(j=b/\k=.cells c g base e)\/(j≠b/\h.get j=some k):=by
 unfold ab.sW at hj;simp only at hj;by_cases hb:j=b
 .simp_all
 .rw[bw hb] at hj
  grind
theorem WF.sW {h:ab}(hw:WF h){b:Nat}{c c0:δ}{g base base0:Nat}{e e0:κ}(hb:h.get b=some (.cells c0 g base0 e0)):WF (h.sW b c g base e):=by
 have hlt:b<h.next:=by
  by_cases hx:b<h.next
  .exact hx
  .rw[hw.get b (by omega)] at hb;cases hb
 refine⟨λj hj=>?_,hw.used,λj c' g' b' e' hj=>?_,hw.maps⟩
 .have h0:=hw.get j hj;have hj:h.next<=j:=hj
  cases hq:(h.sW b c g base e).get j with
  |none=>rfl
  |some k=>
   rcases wm hq with⟨h1,_⟩|⟨_,h1⟩
   .omega
   .rw[h0] at h1;cases h1
 .rcases wm hj with⟨_,h1⟩|⟨_,h1⟩
  .cases h1;exact hw.eJ _ _ _ _ _ hb
  .exact hw.eJ _ _ _ _ _ h1
theorem Fr.sW {h:ab}(hw:WF h){b:Nat}{c c0:δ}{g base base0:Nat}{e e0:κ}(h0:g≠0)(hb:h.get b=some (.cells c0 g base0 e0)):Fr (·=g) h (h.sW b c g base e):=by
 refine⟨hw.sW hb,aae _,?_,λ_ _ _=>rfl,λ_ _=>rfl,?_,λ_ _ e _=>e⟩
 .intro j c' g' b' e' hj hg;have hg:g'≠g:=λe1=>h0 (by rw[<-e1];exact hg e1);refine PA hj hg λhjb=>?_;subst hjb;rw[hb] at hj;cases hj;exact hg rfl
 .intro j hj hn;cases hq:(h.sW b c g base e).get j with
  |none=>rfl
  |some k=>
   rcases wm hq with⟨h1,_⟩|⟨_,h1⟩
   .subst h1;rw[hn] at hb;cases hb
   .rw[hn] at h1;cases h1
theorem kL {h:ab}{nm nx:Nat}{e:κ}{cs:δ}:(h.cS nm nx e cs).get nm=some (.cells cs (nm+1) 0 e):=by
 simp[ab.cS,gO]
theorem fX {h:ab}{nm nx j:Nat}{e:κ}{cs:δ}(hj:j≠nm):(h.cS nm nx e cs).get j=h.get j:=by
 simp[ab.cS,bw hj]
theorem wo {h:ab}{nm nx:Nat}{e:κ}{cs:δ}:(h.cS nm nx e cs).ot (nm+1)=cs.length:=by
 simp[ab.cS,gO]
theorem zf {h:ab}{nm nx g:Nat}{e:κ}{cs:δ}(hg:g≠nm+1):(h.cS nm nx e cs).ot g=h.ot g:=by
 simp[ab.cS,bw hg]
theorem WF.cS {h:ab}(hw:WF h){nm nx:Nat}(h1:nm<nx)(h2:h.next<=nx){e:κ}{cs:δ}:WF (h.cS nm nx e cs):=by
 refine⟨λj hj=>?_,λj hj=>?_,λj c g b e' hj=>?_,λj hj=>hw.maps j (abi h2 hj)⟩
 .have hj:nx<=j:=hj;rw[fX (by omega)];exact hw.get j (by omega)
 .have hj:nx<=j:=hj;simp[ab.cS,bw (show j≠nm by omega)];exact hw.used j (by omega)
 .by_cases hn:j=nm
  .subst hn;rw[kL] at hj;cases hj;exact h1
  .rw[fX hn] at hj;exact abi (hw.eJ _ _ _ _ _ hj) h2
theorem WF.new {h:ab}(hw:WF h){e:κ}{cs:δ}:WF (h.new e cs):=hw.cS (aad _) (air _)
theorem Fr.new {h:ab}(hw:WF h){e:κ}{cs:δ}:Fr (λ_=>False) h (h.new e cs):=by
 refine⟨hw.new,air _,?_,?_,?_,?_,λ_ _ e _=>e⟩
 .intro j c g b e' hj _;rw[ab.new,fX]
  .exact hj
  .intro hn;subst hn;rw[hw.get _ (aae _)] at hj;cases hj
 .intro g hg _;exact zf (by omega)
 .intro j hj;simp[ab.new,ab.cS,bw (show j≠h.next by omega)]
 grind [ab.new,ab.new,fX]
theorem WF.eU {h:ab}(hw:WF h){n:Nat}:WF { h with next:=h.next+n }:=
 ⟨λj hj=>hw.get j (by simp at hj;omega),λj hj=>hw.used j (by simp at hj;omega),λj c g b e hj=>abi (hw.eJ j c g b e hj) (by simp),λj hj=>hw.maps j (by simp at hj;omega)⟩
theorem Fr.eU {h:ab}(hw:WF h){n:Nat}:Fr (λ_=>False) h { h with next:=h.next+n }:=
 ⟨hw.eU,by simp,λ_ _ _ _ _ e _=>e,λ_ _ _=>rfl,λ_ _=>rfl,λ_ _ e=>e,λ_ _ e _=>e⟩
theorem Fr.cS {X:Nat->Prop}{h0 h:ab}(hw:WF h0)(a:Fr X h0 h){k:Nat}(hk:h0.next<=k)(hk2:k<h.next){e:κ}{cs:δ}:Fr X h0 (h.cS k h.next e cs):=by
 refine⟨a.wf.cS hk2 (aae _),a.next,?_,?_,?_,?_,λj x hj hx=>a.maps j x hj hx⟩
 .intro j c g b e' hj hg;have:=a.cells j c g b e' hj hg;by_cases hn:j=k
  .subst hn;rw[hw.get j hk] at hj;cases hj
  .rw[fX hn];exact this
 .intro g hg hx;rw[zf (by omega)];exact a.ot g hg hx
 .intro j hj;have:j≠k:=by omega
  simp[ab.cS,bw this];exact a.used j hj
 .intro j hj hn;rw[fX (by omega)];exact a.none j hj hn
def wq (h:ab)(s:Sl)(sz:Nat)(e:κ)(cs:δ)(g:Nat):Prop:=
 cs.length=s.len*sz/\((s=⟨none,0,0⟩/\g=0)\/(0<g/\g<=h.next/\(s.cap=0\/s.cap=s.len+1)/\∃b base,s.a=some ⟨b,0,none⟩/\h.get b=some (.cells cs g base e)/\h.ot g=base+cs.length))
theorem wq.nil {h:ab}{sz:Nat}{e:κ}:wq h ⟨none,0,0⟩ sz e [] 0:=⟨by simp,.inl ⟨rfl,rfl⟩⟩
theorem wq.fr {h h':ab}{s:Sl}{sz:Nat}{e:κ}{cs:δ}{g:Nat}{X:Nat->Prop}(o:wq h s sz e cs g)(f:Fr X h h')(hg:X g->g=0):wq h' s sz e cs g:=by
 obtain⟨h1,h2⟩:=o;refine⟨h1,?_⟩;rcases h2 with h2|⟨h2,h3,h4,b,base,h5,h6,h7⟩
 .exact .inl h2
 .exact .inr ⟨h2,abi h3 f.next,h4,b,base,h5,f.cells _ _ _ _ _ h6 hg,by rw[f.ot g h3 hg];exact h7⟩
theorem wq.av {h:ab}{s:Sl}{sz:Nat}{e:κ}{cs:δ}{g:Nat}(o:wq h s sz e cs g)(hn:s.len≠0) :
  ∃b base,s.a=some ⟨b,0,none⟩/\h.get b=some (.cells cs g base e)/\g≠0:=by
 obtain⟨_,h2⟩:=o
 grind
theorem wq.le {h:ab}{s:Sl}{sz:Nat}{e:κ}{cs:δ}{g:Nat}(o:wq h s sz e cs g):g<=h.next:=by
 obtain⟨_,h2⟩:=o;rcases h2 with⟨_,h2⟩|⟨h2,h3,_⟩<;>omega
theorem wq.read {h:ab}{s:Sl}{sz:Nat}{e:κ}{cs:δ}{g:Nat}(o:wq h s sz e cs g):aX h s.a (s.len*sz)=some cs:=by
 obtain⟨h1,h2⟩:=o
 grind [aX]
theorem wq.sW {h:ab}{s:Sl}{sz:Nat}{e:κ}{cs cs':δ}{g b base:Nat}(o:wq h s sz e cs g)(hl:cs'.length=cs.length)(hn:s.len≠0)
  (ha:s.a=some ⟨b,0,none⟩) (hb:h.get b=some (.cells cs g base e)):wq (h.sW b cs' g base e) s sz e cs' g:=by
 obtain⟨h1,h2⟩:=o;rcases h2 with⟨rfl,_⟩|⟨h2,h3,h4,b2,base2,h5,h6,h7⟩
 .exact absurd rfl hn
 .rw[ha] at h5;cases h5;rw[hb] at h6;cases h6;exact⟨by omega,.inr ⟨h2,h3,h4,b,base,ha,xD,by rw[hl];exact h7⟩⟩
theorem wq.app {h:ab}{s:Sl}{sz:Nat}{e:κ}{cs new:δ}{g n:Nat}{st:Bool}{Q:Sl->ab->Prop}(o:wq h s sz e cs g)(hw:WF h)(hn:n≠0)(hl:new.length=n*sz)(hb:s.len+n<=cT)
  (hq:∀s' h' g',s'.len=s.len+n->s'.cap=0->wq h' s' sz e (cs++new) g'->(g'=g/\g≠0\/g'=h.next+1)->Fr (·=g) h h'->Q s' h'):Wp (Ago.app st s sz e n new) h Q:=by
 obtain⟨h1,h2⟩:=o;have hnx:=hw.get h.next (aae _)
 have key:Ago.app st s sz e n new h=uJ st s sz e n new h:=by unfold Ago.app;simp[hnx]
 suffices hh:∃s' h' ,uJ st s sz e n new h=some (s',h')/\Q s' h' by
  obtain⟨s',h',e1,e2⟩:=hh;exact⟨s',h',by rw[key];exact e1,e2⟩
 have fresh:wq (h.new e (cs++new)) ⟨some ⟨h.next,0,none⟩,s.len+n,0⟩ sz e (cs++new) (h.next+1):=
  ⟨by simp[h1,hl,ad8],.inr ⟨by omega,by simp[ab.new,ab.cS],.inl rfl,h.next,0,rfl,kL,by rw[ab.new,wo];simp⟩⟩
 have ffr:Fr (·=g) h (h.new e (cs++new)):=(Fr.new hw).mono hw (λ_ hx _=>hx.elim)
 rcases h2 with⟨rfl,rfl⟩|⟨h2,h3,h4,b,base,h5,h6,h7⟩
 .have hc:cs=[]:=acu (by simpa using h1);subst hc;refine⟨_,_,?_,hq _ _ _ rfl rfl fresh (.inr rfl) ffr⟩;unfold uJ
  grind
 .have hcells:aX h (some ⟨b,0,none⟩) (s.len*sz)=some cs:=by simp[aX,h6,<-h1]
  rcases h4 with h4|h4
  ·-- in the same group
   refine⟨⟨some ⟨h.next,0,none⟩,s.len+n,0⟩,{ h with get:=λj=>cond (Nat.beq j h.next) (some (.cells (cs++new) g (base+0) e)) (h.get j),next:=h.next+1,ot:=λg'=>cond (Nat.beq g' g) (base+0+s.len*sz+new.length) (h.ot g'),used:=λj=>cond (Nat.beq j h.next) true (h.used j) },?_,hq _ _ g rfl rfl ?_ (.inl ⟨rfl,by omega⟩) ?_⟩
   .unfold uJ
    grind [xj]
   .refine⟨by simp[h1,hl,ad8],.inr ⟨h2,by simp;omega,.inl rfl,h.next,base+0,rfl,by simp[gO],?_⟩⟩
    simp[gO,h1];omega
   .refine⟨⟨λj hj=>?_,λj hj=>?_,λj c g' b' e' hj=>?_,λj hj=>hw.maps j (by simp at hj;omega)⟩,air _,?_,?_,?_,?_,λ_ _ e _=>e⟩
    .simp at hj;simp[bw (show j≠h.next by omega)];exact hw.get j (by omega)
    .simp at hj;simp[bw (show j≠h.next by omega)];exact hw.used j (by omega)
    .simp only at hj;by_cases hjn:j=h.next
     .subst hjn;simp[gO] at hj;simp;omega
     .simp[bw hjn] at hj;have:=hw.eJ _ _ _ _ _ hj;simp;omega
    .intro j c g' b' e' hj _;have:j≠h.next:=λhjn=>by subst hjn;rw[hnx] at hj;cases hj
     simp[bw this];exact hj
    .grind [bw]
    .intro j hj;simp[bw (show j≠h.next by omega)]
    .intro j hj hx;simp[bw (show j≠h.next by omega)];exact hx
  .refine⟨_,_,?_,hq _ _ _ rfl rfl fresh (.inr rfl) ffr⟩;unfold uJ
   grind
theorem ic {enc:α->δ}{sz:Nat}(he:∀x,(enc x).length=sz):∀(L:List α),(L.flatMap enc).length=L.length*sz
 |[]=>by simp
 |x::L=>by rw[acS,aa8,he,ic he L,aac,ad8,aiT,ald]
theorem IQ {enc:α->δ}{sz:Nat}(he:∀x,(enc x).length=sz):∀(L:List α) (i:Nat),(L.flatMap enc).drop (i*sz)=(L.drop i).flatMap enc
 |L,0=>by simp
 |[],i+1=>by simp
 |x::L,i+1=>by
  rw[acS,List.drop_succ_cons,<-IQ he L i,ad8,aiT,ald,<-aha]
  congr 1
  rw[<-he x,List.drop_left]
theorem TM {enc:α->δ}{sz:Nat}(he:∀x,(enc x).length=sz){L:List α}{i:Nat}{x:α}(hi:L[i]?=some x):((L.flatMap enc).drop (i*sz)).take sz=enc x:=by
 grind [IQ,List.getElem?_eq_some_iff,List.drop_eq_getElem_cons,List.take_left]
structure LB (h:ab) (b:Nat) (cs:δ) (e:κ):Prop where
 get:h.get b=some (.cells cs (b+1) 0 e)
theorem LB.new {h:ab}{e:κ}{cs:δ}:LB (h.new e cs) h.next cs e:=⟨kL⟩
theorem LB.fr {h h':ab}{b:Nat}{cs:δ}{e:κ}{X:Nat->Prop}(l:LB h b cs e)(f:Fr X h h')(hx:¬X (b+1)):LB h' b cs e:=⟨f.cells _ _ _ _ _ l.get λhm=>absurd hm hx⟩
theorem LB.lt {h:ab}{b:Nat}{cs:δ}{e:κ}(l:LB h b cs e)(hw:WF h):b<h.next:=by
 have:=hw.eJ _ _ _ _ _ l.get;omega
theorem LB.st {h:ab}{b o:Nat}{cs vs:δ}{e:κ}(l:LB h b cs e)(hw:WF h)(ho:o+vs.length<=cs.length)(hv:vs.all eB=true){Q:Unit->ab->Prop}
  (hq:∀h',LB h' b (bh cs o vs) e->Fr (·=b+1) h h'->Q () h'):Wp (bD ⟨b,o,none⟩ vs) h Q:=by
 rw[Jw];exact⟨cs,b+1,0,e,l.get,by omega,ho,hv,hq _ ⟨xD⟩ (Fr.sW hw (by omega) l.get)⟩
theorem LB.ld {h:ab}{b o:Nat}{cs:δ}{e:κ}(l:LB h b cs e){lf:eD}{v:ξ}{x:lf.den}(hv:cs[o]?=some v)(hx:AX lf v=some x):h.ld lf b o=some x:=by
 unfold ab.ld;rw[l.get];simp only[hv];exact hx
theorem LB.fG {h:ab}{b o:Nat}{cs:δ}{e:κ}(l:LB h b cs e){ls:List eD}{x:eI ls}(hl:o+ls.length<=cs.length)(hx:Ao ls ((cs.drop o).take ls.length)=some x):h.fG ls b o=some x:=by
 unfold ab.fG;rw[l.get];simp only[hl,ai8];exact hx
theorem Fr.fresh {X Y:Nat->Prop}{h0 h h':ab}(hw:WF h0)(a:Fr X h0 h)(b:Fr Y h h')(hg:∀g,Y g->X g\/h0.next<g):Fr X h0 h':=a.trans hw b λg hy _=>hg g hy
theorem Jy {e:κ}{z:δ}{l c:Int}{h:ab}{Q:Sl->ab->Prop}(h1:0<=l)(h2:l<=c)(h3:c<=cT)(q:Q ⟨some ⟨h.next,0,none⟩,l.toNat,c.toNat+1⟩ (h.new e (List.replicate c.toNat z).flatten))(hz:z.all eB=true:=by rfl):Wp (vG none e z l c) h Q:=by
 have hs:(List.replicate c.toNat z).flatten.all eB=true:=by
  grind
 exact⟨_,_,by unfold vG aJ;rw[By ⟨h1,h2,h3⟩,By hs],q⟩
theorem WT {k:Nat}{e:κ}{z:δ}{l c:Int}{h:ab}{Q:Sl->ab->Prop}(h1:0<=l)(h2:l<=c)(h3:c<=cT)(k1:h.used k=false)(k2:k<h.next)(k3:h.get k=none)
  (q:Q ⟨some ⟨k,0,none⟩,l.toNat,c.toNat+1⟩ (h.cS k h.next e (List.replicate c.toNat z).flatten)) (hz:z.all eB=true:=by rfl):Wp (vG (some k) e z l c) h Q:=by
 have hs:(List.replicate c.toNat z).flatten.all eB=true:=by
  grind
 exact⟨_,_,by unfold vG aJ;grind,q⟩
theorem wT {s:Sl}{lo hi:Int}{e:κ}{z:Nat}{h:ab}{Q:Sl->ab->Prop}(h1:0<=lo)(h2:lo<=hi)(h3:hi<=s.len)(h4:jd h s e=true)
  (q:Q ⟨s.a.map (·.plus (lo.toNat*z)),hi.toNat-lo.toNat,s.cap-(if s.cap=0 then 0 else lo.toNat)⟩ h):Wp (jT s lo hi e z) h Q:=
 ⟨_,_,by unfold jT;rw[By ⟨h1,h2,h3,h4⟩],q⟩
theorem zg {m:M α}{as:List θ}{h:ab}{Q:α->ab->Prop}(hm:Wp m h λx h'=>(∀a,some a∈as->h'.get a.block=h.get a.block)/\Q x h'):Wp (oo as m) h Q:=by
 obtain⟨x,h',e,hs,q⟩:=hm;refine⟨x,h',?_,q⟩;have:sameAt h h' as=true:=by
  clear e q
  induction as with
  |nil=>rfl
  |cons a r ih=>
   have ih:=ih λa ha=>hs a (IN _ ha);cases a with
   |none=>exact ih
   |some b=>
    have hb:=hs b (by simp);unfold sameAt;cases adg h h' b with
    |isTrue _=>exact ih
    |isFalse hn=>exact absurd (gq.of hb) hn
 unfold oo;rw[e];simp only[this]
theorem aaS {k:Nat}{m:M α}{h:ab}{Q:α->ab->Prop}(hm:Wp m h λx h1=>BP k m h x h1/\Q x h1):Wp (Aq k m) h Q:=by
 obtain⟨x,h1,e,hb,q⟩:=hm;refine⟨x,h1,?_,q⟩;unfold Aq;rw[e];simp only;split
 .rfl
 .rename_i hn _;exact absurd hb hn
theorem kr {cs:List Ty}{x:ξ}{c:aH cs}{h:ab}{Q:aH cs->ab->Prop}(hx:wa cs (Jd x)=some c)(q:Q c h):Wp (nU cs x) h Q:=
 ⟨c,h,by unfold nU;rw[hx],q⟩
theorem afq {k k':IntKind}(h:OT k k'=true):k=k':=by cases k<;>cases k'<;>simp_all[OT,Rk]
theorem kM {a b:ζ}(h:mY a b=true):a=b:=by
 rw[qf] at h;have h:=beq_iff_eq.1 h;rw[ByteArray.toList_eq,ByteArray.toList_eq] at h;cases a;cases b;simp at h;rw[h]
theorem RG {v u:ξ}(h:Da v u=true):v=u:=by
 cases v<;>cases u<;>simp only[Da,aag,OF] at h<;>try cases h
 .rename_i a b;simp at h;rw[h]
 .rename_i h1 h2;rw[afq h1,h2]
 .rw[kM h]
theorem RH:∀{xs ys:δ},Ap xs ys=true->xs=ys
 |[],[],_=>rfl
 |[],_::_,h=>by cases h
 |_::_,[],h=>by cases h
 |x::xs,y::ys,h=>by
  simp only[Ap,aag] at h;rw[RG h.1,RH h.2]
theorem PB {x y:ξ}(h:y5 x y=true):x=y:=by
 unfold y5 at h
 grind [Array.toList_inj,RH,RG]
theorem xE {k v k':ξ}{c:Nat}:∀{es:List o6},yk k' (qb k v c es)=if y5 k' k then some v else yk k' es
 |[]=>by simp only[qb,yk,gf];cases y5 k' k<;>rfl
 |e::r=>by
  have ih:=xE (k:=k) (v:=v) (k':=k') (c:=c) (es:=r);simp only[qb];cases hq:y5 k e.key
  .simp only[yk,gf] at ih⊢;cases h2:y5 k' e.key
   .simp only;exact ih
   grind [PB,y5]
  grind [PB,yk,gf,y5]
theorem Cj {k v:ξ}{c:Nat}:∀{es:List o6},(qb k v c es).length=if (gf k es).isSome then es.length else es.length+1
 |[]=>rfl
 |e::r=>by
  have ih:=Cj (k:=k) (v:=v) (c:=c) (es:=r);by_cases hq:y5 k e.key=true
  .simp[qb,gf,hq]
  .have hq:y5 k e.key=false:=by simpa using hq
   grind [qb,gf,List.length_cons]
def qp (c:Nat):List o6->Prop
 |[]=>True
 |e::r=>e.born<c/\(∀x∈r,x.born≠e.born)/\qp c r
theorem qp.mono {c c':Nat}(hc:c<=c'):∀{es:List o6},qp c es->qp c' es
 |[],_=>trivial
 |e::r,h=>⟨aiq h.1 hc,h.2.1,qp.mono hc h.2.2⟩
theorem qp.lt {c:Nat}:∀{es:List o6},qp c es->∀e∈es,e.born<c
 |[],_=>by simp
 |e::r,h=>λx hx=>by
  rcases List.mem_cons.1 hx with rfl|hx
  .exact h.1
  .exact qp.lt h.2.2 x hx
theorem IU {k v:ξ}{c:Nat}:∀{es:List o6},∀x∈qb k v c es,(∃y∈es,x.born=y.born)\/x.born=c
 |[]=>by simp[qb]
 |e::r=>by
  intro x hx;simp only[qb] at hx;split at hx
  .grind
  .rcases List.mem_cons.1 hx with rfl|hx
   .exact .inl ⟨x,by simp,rfl⟩
   .rcases IU x hx with⟨y,h1,h2⟩|h1
    .exact .inl ⟨y,IN _ h1,h2⟩
    .exact .inr h1
theorem qp.put {k v:ξ}{c c':Nat}(hc:c<=c'):∀{es:List o6},qp c es->(gf k es=none->c<c')->qp c' (qb k v c es)
 |[],_,h=>⟨h rfl,by simp,trivial⟩
 |e::r,hs,h=>by
  simp only[qb];simp only[gf] at h;cases hq:y5 k e.key
  .rw[hq] at h;refine⟨aiq hs.1 hc,λx hx=>?_,qp.put hc hs.2.2 h⟩;rcases IU x hx with⟨y,h1,h2⟩|h1
   .rw[h2];exact hs.2.1 y h1
   .rw[h1];have:=hs.1;omega
  .exact⟨aiq hs.1 hc,hs.2.1,hs.2.2.mono hc⟩
structure MB (h:ab) (m:Nat) (kt:κ) (f:ξ->Option ξ) (n:Nat):Prop where
 ex:∃c es,h.kZ m=some ⟨kt,c,es⟩/\qp c es/\(∀k,yk k es=f k)/\es.length=n
theorem MB.lt {h:ab}{m:Nat}{kt:κ}{f:ξ->Option ξ}{n:Nat}(l:MB h m kt f n)(hw:WF h):m<h.next:=by
 obtain⟨c,es,h1,_⟩:=l.ex;exact hw.mlt h1
theorem MB.fr {h h':ab}{m:Nat}{kt:κ}{f:ξ->Option ξ}{n:Nat}{X:Nat->Prop}(l:MB h m kt f n)(fr:Fr X h h')(hx:¬X (m+1)):MB h' m kt f n:=by
 obtain⟨c,es,h1,h2⟩:=l.ex;exact⟨c,es,fr.maps _ _ h1 hx,h2⟩
theorem GL {h:ab}{m:Nat}{kt:κ}{c:Nat}{es:List o6}(hm:h.kZ m=some ⟨kt,c,es⟩):h.B7 kt m=some (c,es):=by
 unfold ab.B7;rw[hm];simp[gO]
theorem WU {kt:κ}{h:ab}(hw:WF h){Q:Nat->ab->Prop}(hq:∀h',MB h' h.next kt (λ_=>none) 0->Fr (λ_=>False) h h'->Q h.next h'):Wp (B5 kt) h Q:=by
 refine⟨_,_,rfl,hq _ ⟨0,[],by simp[ab.nu,gO],trivial,λ_=>rfl,rfl⟩ ⟨⟨λj hj=>?_,λj hj=>?_,λj c g b e hj=>?_,λj hj=>?_⟩,air _,λ_ _ _ _ _ e _=>e,λ_ _ _=>rfl,λj hj=>?_,λ_ _ e=>e,λj x hj _=>?_⟩⟩
 .exact hw.get j (by simp at hj;omega)
 .simp at hj;simp[bw (show j≠h.next by omega)];exact hw.used j (by omega)
 .exact abi (hw.eJ j c g b e hj) (by simp)
 .simp at hj;simp[ab.nu,bw (show j≠h.next by omega)];exact hw.maps j (by omega)
 .simp[bw (show j≠h.next by omega)]
 .have:=hw.mlt hj;simp[ab.nu,bw (show j≠h.next by omega)];exact hj
theorem Fr.nu {h:ab}(hw:WF h){m:Nat}{x:aaj}(hlt:m<h.next):Fr (·=m+1) h (h.nu m x):=by
 refine⟨⟨hw.get,hw.used,hw.eJ,λj hj=>?_⟩,aae _,λ_ _ _ _ _ e _=>e,λ_ _ _=>rfl,λ_ _=>rfl,λ_ _ e=>e,λj x hj hx=>?_⟩
 .have hj:h.next<=j:=hj
  simp[ab.nu,bw (show j≠m by omega)];exact hw.maps j hj
 grind [ab.nu,bw]
theorem MB.aid {h:ab}{m:Nat}{kt:κ}{f:ξ->Option ξ}{n:Nat}(l:MB h m kt f n){T:Ty}{z:T.den}{k:ξ}{Q:Bool×T.den->ab->Prop}
  (h1:∀v,f k=some v->∃x,Mv T v=some x/\Q (true,x) h) (h2:f k=none->Q (false,z) h):Wp (rK kt T z (some m) k) h Q:=by
 obtain⟨c,es,e1,_,e2,_⟩:=l.ex;unfold Wp rK;simp only[GL e1,e2]
 grind
def yE (f:ξ->Option ξ)(k v:ξ):ξ->Option ξ:=λk'=>if y5 k' k then some v else f k'
theorem MB.ake {h:ab}{m:Nat}{kt:κ}{f:ξ->Option ξ}{n:Nat}(l:MB h m kt f n)(hw:WF h){k v:ξ}{Q:Unit->ab->Prop}
  (hq:∀h',MB h' m kt (yE f k v) (if (f k).isSome then n else n+1)->Fr (·=m+1) h h'->Q () h'):Wp (Ed kt (some m) k v) h Q:=by
 have hlt:=l.lt hw;obtain⟨c,es,e1,e3,e2,e4⟩:=l.ex;unfold Wp Ed;simp only[GL e1];have hk:(gf k es).isSome=(f k).isSome:=by rw[<-e2 k];unfold yk;cases gf k es<;>rfl
 refine⟨(),h.nu m ⟨kt,(match gf k es with|some _=>c|none=>c+1),qb k v c es⟩,rfl,hq _ ⟨_,_,by simp[ab.nu,gO];exact⟨rfl,rfl⟩,?_,λk'=>?_,?_⟩ (Fr.nu hw hlt)⟩
 .cases hm:gf k es with
  |none=>exact e3.put (air _) λ_=>aad _
  |some x=>exact e3.put (aae _) λhn=>by rw[hm] at hn;cases hn
 .rw[xE,e2];rfl
 .rw[Cj,hk,e4]
theorem MB.len {h:ab}{m:Nat}{kt:κ}{f:ξ->Option ξ}{n:Nat}(l:MB h m kt f n){Q:Nat->ab->Prop}(q:Q n h):Wp (Mw (some m)) h Q:=by
 obtain⟨c,es,e1,_,_,e4⟩:=l.ex;exact⟨n,h,by unfold Mw;simp only[e1,e4],q⟩
def Cm (h:ab)(m:Nat)(k:ξ)(st:Nat):Prop:=∃x,h.kZ m=some x/\∃e,gf k x.es=some e/\e.born=st
theorem Cm.fr {h h':ab}{m:Nat}{k:ξ}{st:Nat}{X:Nat->Prop}(l:Cm h m k st)(fr:Fr X h h')(hx:¬X (m+1)):Cm h' m k st:=by
 obtain⟨x,h1,h2⟩:=l;exact⟨x,fr.maps _ _ h1 hx,h2⟩
theorem GM {k v:ξ}{c:Nat}(hk:y5 k k=true):∀{es:List o6},gf k es=none->gf k (qb k v c es)=some ⟨k,v,c⟩
 |[],_=>by simp[qb,gf,hk]
 |e::r,h=>by
  simp only[gf] at h;simp only[qb];cases hq:y5 k e.key
  .rw[hq] at h;simp only[gf,hq];exact GM hk h
  .rw[hq] at h;cases h
theorem MB.entry {h:ab}{m:Nat}{kt:κ}{f:ξ->Option ξ}{n:Nat}(l:MB h m kt f n)(hw:WF h){T:Ty}{z:T.den}{k:ξ}(hk:y5 k k=true){Q:T.den×Nat->ab->Prop}
  (h1:∀v,f k=some v->∃x,Mv T v=some x/\∀st,Cm h m k st->Q (x,st) h)
  (h2:f k=none->∀h' st,MB h' m kt (yE f k (Ec T z)) (n+1)->Cm h' m k st->Fr (·=m+1) h h'->Q (z,st) h'):Wp (xk kt T z (some m) k) h Q:=by
 have hlt:=l.lt hw;obtain⟨c,es,e1,e3,e2,e4⟩:=l.ex;unfold Wp xk;simp only[GL e1];cases hm:gf k es with
 |none=>
  have hf:f k=none:=by rw[<-e2];unfold yk;rw[hm];rfl
  refine⟨_,_,rfl,h2 hf _ _ ⟨c+1,qb k (Ec T z) c es,by simp[ab.nu,gO],e3.put (air _) λ_=>aad _,λk'=>?_,?_⟩ ⟨⟨kt,c+1,qb k (Ec T z) c es⟩,by simp[ab.nu,gO],⟨k,Ec T z,c⟩,GM hk hm,rfl⟩ (Fr.nu hw hlt)⟩
  .rw[xE,e2];rfl
  .rw[Cj,hm,e4];rfl
 |some e=>
  have hf:f k=some e.val:=by rw[<-e2];unfold yk;rw[hm];rfl
  obtain⟨x,hx,q⟩:=h1 _ hf;simp only[hx];exact⟨_,_,rfl,q _ ⟨_,e1,e,hm,rfl⟩⟩
theorem GN {k v:ξ}{c:Nat}:∀{es:List o6} {e:o6},qp c es->gf k es=some e->Iy e.born v es=some (qb k v c es)
 |[],e,_,h=>by cases h
 |x::r,e,hs,h=>by
  simp only[gf] at h;simp only[Iy,qb];cases hq:y5 k x.key
  .rw[hq] at h;have hmem:∀{es:List o6},gf k es=some e->e∈es:=by
    intro es
    induction es with
    |nil=>intro h;cases h
    |cons y r ih=>
     grind [gf,List.mem_cons_of_mem]
   have hne:=hs.2.1 e (hmem h);rw[bw (λe2=>hne e2.symm)];simp only;rw[GN hs.2.2 h]
  grind [gO,PB]
theorem MB.store {h:ab}{m:Nat}{kt:κ}{f:ξ->Option ξ}{n:Nat}(l:MB h m kt f n)(hw:WF h){k v:ξ}{st:Nat}(hs:Cm h m k st){Q:Unit->ab->Prop}
  (hq:∀h',MB h' m kt (yE f k v) n->Fr (·=m+1) h h'->Q () h'):Wp (xl (some m) (st:Int) v) h Q:=by
 have hlt:=l.lt hw;obtain⟨c,es,e1,e3,e2,e4⟩:=l.ex;obtain⟨x,h1,e,h2,rfl⟩:=hs;rw[e1] at h1;cases h1;have hp:=GN (v:=v) e3 h2;have hd:decide (0<=((e.born:Nat):Int))=true:=by simp
 unfold Wp xl;simp only[e1,hd,aab,hp];refine⟨(),h.nu m ⟨kt,c,qb k v c es⟩,rfl,hq _ ⟨c,qb k v c es,by simp[ab.nu,gO],e3.put (aae _) (λhn=>by simp only at h2;rw[h2] at hn;cases hn),λk'=>?_,?_⟩ (Fr.nu hw hlt)⟩
 .rw[xE,e2];rfl
 .simp only at h2;rw[Cj,h2,e4];rfl
end Go.Ago
