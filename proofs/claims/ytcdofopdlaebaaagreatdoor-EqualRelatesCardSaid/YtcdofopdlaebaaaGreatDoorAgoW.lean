
import Derived.Test.YtcdofopdlaebaaaGreatDoorAgoA
import Derived.Laws.Strings
namespace Go.Ago
open Go
variable {α β:Type}
def Wp (m:M α)(h:af)(Q:α->af->Prop):Prop:=∃x h',m h=some (x,h')/\Q x h'
theorem Wp.mono {m:M α}{h:af}{Q Q':α->af->Prop}(hm:Wp m h Q)(hq:∀x h',Q x h'->Q' x h'):Wp m h Q':=by
 obtain⟨x,h',e,q⟩:=hm;exact⟨x,h',e,hq _ _ q⟩
theorem ah {m:M α}{f:α->M β}{h:af}{Q:β->af->Prop}:Wp (sh m f) h Q↔Wp m h λx h'=>Wp (f x) h' Q:=by
 constructor
 .rintro⟨y,h2,e,q⟩;unfold sh at e;split at e
  .rename_i x h1 hm;exact⟨x,h1,hm,y,h2,e,q⟩
  .cases e
 .rintro⟨x,h1,hm,y,h2,e,q⟩;exact⟨y,h2,by unfold sh;rw[hm];exact e,q⟩
theorem Wp.bind {m:M α}{f:α->M β}{h:af}{Q:β->af->Prop}(hm:Wp m h λx h'=>Wp (f x) h' Q):Wp (sh m f) h Q:=ah.2 hm
theorem Wp.seq {m:M α}{f:α->M β}{h:af}{R:α->af->Prop}{Q:β->af->Prop}(hm:Wp m h R)(hf:∀x h',R x h'->Wp (f x) h' Q):Wp (sh m f) h Q:=ah.2 (hm.mono hf)
theorem ag {x:α}{h:af}{Q:α->af->Prop}:Wp (AI x) h Q↔Q x h:=
 ⟨λ⟨_,_,e,q⟩=>by cases e;exact q,λq=>⟨x,h,rfl,q⟩⟩
theorem ad4 {p:Option Addr}{h:af}{Q:Addr->af->Prop}:Wp (nn p) h Q↔∃a,p=some a/\Q a h:=by
 constructor
 .rintro⟨x,h',e,q⟩;cases p<;>simp[nn] at e;obtain⟨rfl,rfl⟩:=e;exact⟨_,rfl,q⟩
 .rintro⟨a,rfl,q⟩;exact⟨a,h,rfl,q⟩
theorem oZ {a:Addr}{h:af}{Q:Addr->af->Prop}:Wp (nn (some a)) h Q↔Q a h:=by simp[ad4]
theorem MQ {b:Bool}{h:af}{Q:Unit->af->Prop}:Wp (kC b) h Q↔b=true/\Q () h:=by
 constructor
 .rintro⟨x,h',e,q⟩;cases b<;>simp[kC] at e;obtain⟨rfl⟩:=e;exact⟨rfl,q⟩
 .rintro⟨rfl,q⟩;exact⟨(),h,rfl,q⟩
def af.ld (h:af)(l:eF)(b o:Nat):Option l.den:=
 match h.get b with
 |some (.cells c _ _ _)=>(match c[o]? with|some v=>yI l v|none=>none)
 |_=>none
theorem uT {l:eF}{a:Addr}{h:af}{Q:l.den->af->Prop}:Wp (aq l a) h Q↔∃x,h.ld l a.block a.off=some x/\Q x h:=by
 have key:aq l a h=(match h.ld l a.block a.off with|some x=>some (x,h)|none=>none):=by
  unfold aq af.cell af.ld;cases h.get a.block with
  |none=>rfl
  |some k=>
   cases k with
   |cells c g b e=>simp only;cases c[a.off]?<;>rfl
   |_=>rfl
 constructor
 .rintro⟨x,h',e,q⟩;rw[key] at e;split at e
  .rename_i y hy;cases e;exact⟨_,hy,q⟩
  .cases e
 .rintro⟨x,hx,q⟩;exact⟨x,h,by rw[key,hx],q⟩
def af.ldI (h:af)(k:IntKind)(b o:Nat):Option Int:=h.ld (.int k) b o
def af.ldB (h:af)(b o:Nat):Option Bool:=h.ld .bool b o
def af.FN (h:af)(b o:Nat):Option ByteArray:=h.ld .str b o
def af.ldV (h:af)(b o:Nat):Option Sl:=h.ld .sl b o
def af.CA (h:af)(b o:Nat):Option (Option Addr):=h.ld .ptr b o
theorem pG {k:IntKind}{a:Addr}{h:af}{Q:Int->af->Prop}:Wp (α:=Int) (aq (.int k) a) h Q↔∃x,h.ldI k a.block a.off=some x/\Q x h:=uT
theorem pH {a:Addr}{h:af}{Q:Bool->af->Prop}:Wp (α:=Bool) (aq .bool a) h Q↔∃x,h.ldB a.block a.off=some x/\Q x h:=uT
theorem pI {a:Addr}{h:af}{Q:ByteArray->af->Prop}:Wp (α:=ByteArray) (aq .str a) h Q↔∃x,h.FN a.block a.off=some x/\Q x h:=uT
theorem pJ {a:Addr}{h:af}{Q:Sl->af->Prop}:Wp (α:=Sl) (aq .sl a) h Q↔∃x,h.ldV a.block a.off=some x/\Q x h:=uT
def af.fI (h:af)(ls:List eF)(b o:Nat):Option (bN ls):=
 match h.get b with
 |some (.cells c _ _ _)=>if o+ls.length<=c.length then vF ls ((c.drop o).take ls.length) else none
 |_=>none
theorem yv {ls:List eF}{a:Addr}{h:af}{Q:bN ls->af->Prop}:Wp (aI ls a) h Q↔∃x,h.fI ls a.block a.off=some x/\Q x h:=by
 have key:aI ls a h=(match h.fI ls a.block a.off with|some x=>some (x,h)|none=>none):=by
  unfold aI aX af.fI;simp only;cases h.get a.block with
  |none=>rfl
  |some k=>
   cases k with
   |cells c g b e=>simp only;by_cases hc:a.off+ls.length<=c.length<;>simp only[hc,if_true,if_false]<;>first|rfl|(cases vF ls (List.take ls.length (List.drop a.off c))<;>rfl)
   |_=>rfl
 constructor
 .rintro⟨x,h',e,q⟩;rw[key] at e;split at e
  .rename_i y hy;cases e;exact⟨_,hy,q⟩
  .cases e
 .rintro⟨x,hx,q⟩;exact⟨x,h,by rw[key,hx],q⟩
theorem HO {a:Addr}{vs:List Value}{h:af}{Q:Unit->af->Prop} :
  Wp (bG a vs) h Q↔∃c g base e,h.get a.block=some (.cells c g base e)/\g≠0/\a.off+vs.length<=c.length/\vs.all eQ=true/\Q () (h.rC a.block (aY c a.off vs) g base e):=by
 constructor
 .rintro⟨x,h',e,q⟩;unfold bG at e;split at e
  .rename_i c g b el hg;split at e
   .rename_i hc;cases e;exact⟨c,g,b,el,hg,hc.1,hc.2.1,hc.2.2,q⟩
   .cases e
  .cases e
 .rintro⟨c,g,b,el,hg,h1,h2,h3,q⟩;exact⟨(),_,by unfold bG;rw[hg];simp only;rw[if_pos ⟨h1,h2,h3⟩],q⟩
theorem zF {e:TypeId}{cs:List Value}{h:af}{Q:Nat->af->Prop}:Wp (aO none e cs) h Q↔cs.all eQ=true/\Q h.next (h.new e cs):=by
 constructor
 .rintro⟨x,h',he,q⟩;unfold aO at he;split at he
  .rename_i hc;cases he;exact⟨hc,q⟩
  .cases he
 .rintro⟨hc,q⟩;exact⟨_,_,by unfold aO;rw[if_pos hc],q⟩
theorem TY {k:Nat}{e:TypeId}{cs:List Value}{h:af}{Q:Nat->af->Prop} :
  Wp (aO (some k) e cs) h Q↔cs.all eQ=true/\h.used k=false/\k<h.next/\h.get k=none/\Q k (h.dQ k h.next e cs):=by
 constructor
 .rintro⟨x,h',he,q⟩;unfold aO at he;split at he
  .rename_i hc;simp only at he;split at he
   .rename_i hd;cases he;exact⟨hc,hd.1,hd.2.1,by simpa using hd.2.2,q⟩
   .cases he
  .cases he
 .rintro⟨hc,h1,h2,h3,q⟩;exact⟨_,_,by unfold aO;rw[if_pos hc];simp only;rw[if_pos ⟨h1,h2,by simp[h3]⟩],q⟩
theorem MR {n:Nat}{h:af}{Q:Nat->af->Prop}:Wp (eS n) h Q↔Q h.next { h with next:=h.next+n }:=
 ⟨λ⟨_,_,e,q⟩=>by cases e;exact q,λq=>⟨_,_,rfl,q⟩⟩
theorem XJ {l:eF}{n:Nat}{cs:List Value}{i:Int}{h:af}{v:Value}{x:l.den}{Q:l.den->af->Prop}(h1:0<=i)(h2:i<(n:Int))(hv:cs[i.toNat]?=some v)(hx:yI l v=some x)(q:Q x h):Wp (Hg l n cs i) h Q:=
 ⟨x,h,by unfold Hg;rw[if_pos ⟨h1,h2⟩,hv];simp only[hx],q⟩
theorem fl {s:ByteArray}{i:Int}{h:af}{Q:UInt8->af->Prop}:Wp (jd s i) h Q↔∃b,0<=i/\s[i.toNat]?=some b/\Q b h:=by
 constructor
 .rintro⟨x,h',e,q⟩;unfold jd at e;split at e
  .rename_i b hb;cases e;split at hb
   .rename_i hi;exact⟨_,hi,hb,q⟩
   .cases hb
  .cases e
 .rintro⟨b,hi,hb,q⟩;exact⟨b,h,by unfold jd;rw[if_pos hi,hb],q⟩
theorem fQ {s:ByteArray}{lo hi:Int}{h:af}{Q:ByteArray->af->Prop}:Wp (iL s lo hi) h Q↔0<=lo/\lo<=hi/\hi<=s.size/\Q (s.extract lo.toNat hi.toNat) h:=by
 constructor
 .rintro⟨x,h',e,q⟩;unfold iL at e;split at e
  .rename_i hc;cases e;exact⟨hc.1,hc.2.1,hc.2.2,q⟩
  .cases e
 .rintro⟨h1,h2,h3,q⟩;exact⟨_,h,by unfold iL;rw[if_pos ⟨h1,h2,h3⟩],q⟩
theorem yw {s:Sl}{i:Int}{z:Nat}{h:af}{Q:Addr->af->Prop}:Wp (av s i z) h Q↔∃a,s.a=some a/\0<=i/\i<s.len/\Q (a.plus (i.toNat*z)) h:=by
 constructor
 .rintro⟨x,h',e,q⟩;unfold av at e;split at e
  .rename_i a ha;split at e
   .rename_i hc;cases e;exact⟨a,ha,hc.1,hc.2,q⟩
   .cases e
  .cases e
 .rintro⟨a,ha,h1,h2,q⟩;exact⟨_,h,by unfold av;rw[ha];simp only;rw[if_pos ⟨h1,h2⟩],q⟩
theorem HP {x y:ByteArray}{h:af}{Q:ByteArray->af->Prop}:Wp (kF x y) h Q↔x.size+y.size<=cK/\Q (x++y) h:=by
 constructor
 .rintro⟨z,h',e,q⟩;unfold kF at e;split at e
  .rename_i hc;cases e;exact⟨hc,q⟩
  .cases e
 .rintro⟨hc,q⟩;exact⟨_,h,by unfold kF;rw[if_pos hc],q⟩
theorem abg {s:Sl}{z:Nat}{h:af}{Q:List Value->af->Prop}:Wp (Mg s z) h Q↔∃cs,aX h s.a (s.len*z)=some cs/\Q cs h:=by
 constructor
 .rintro⟨x,h',e,q⟩;unfold Mg at e;split at e
  .rename_i cs hc;cases e;exact⟨_,hc,q⟩
  .cases e
 .rintro⟨cs,hc,q⟩;exact⟨cs,h,by unfold Mg;rw[hc],q⟩
theorem GU {v:Value}{h:af}{Q:Bool->af->Prop}:Wp (kc v) h Q↔(v=.nilIface/\Q true h)\/(∃t u,v=.iface t u/\Q false h):=by
 constructor
 .rintro⟨x,h',e,q⟩;unfold kc at e;split at e<;>cases e
  .exact .inl ⟨rfl,q⟩
  .exact .inr ⟨_,_,rfl,q⟩
 .rintro (⟨rfl,q⟩|⟨t,u,rfl,q⟩)
  .exact⟨true,h,rfl,q⟩
  .exact⟨false,h,rfl,q⟩
structure WF (h:af):Prop where
 get:∀j,h.next<=j->h.get j=none
 used:∀j,h.next<=j->h.used j=false
 dW:∀j c g b e,h.get j=some (.cells c g b e)->g<=h.next
 maps:∀j,h.next<=j->h.jf j=none
theorem WF.mlt {h:af}(hw:WF h){j:Nat}{x:Xh}(hx:h.jf j=some x):j<h.next:=by
 by_cases hj:j<h.next
 .exact hj
 .rw[hw.maps j (by omega)] at hx;cases hx
structure Fr (X:Nat->Prop) (h h':af):Prop where
 wf:WF h'
 next:h.next<=h'.next
 cells:∀j c g b e,h.get j=some (.cells c g b e)->(X g->g=0)->h'.get j=some (.cells c g b e)
 oi:∀g,g<=h.next->(X g->g=0)->h'.oi g=h.oi g
 used:∀j,j<h.next->h'.used j=h.used j
 none:∀j,j<h.next->h.get j=none->h'.get j=none
 maps:∀j x,h.jf j=some x->¬X (j+1)->h'.jf j=some x
theorem Fr.refl {X:Nat->Prop}{h:af}(hw:WF h):Fr X h h:=⟨hw,aaR _,λ_ _ _ _ _ e _=>e,λ_ _ _=>rfl,λ_ _=>rfl,λ_ _ e=>e,λ_ _ e _=>e⟩
theorem Fr.trans {X Y:Nat->Prop}{h h1 h2:af}(hw:WF h)(a:Fr X h h1)(b:Fr Y h1 h2)(hy:∀g,Y g->g≠0->X g\/h.next<g):Fr X h h2:=by
 refine⟨b.wf,abU a.next b.next,?_,?_,?_,?_,λj x hj hx=>?_⟩
 .intro j c g bs e hj hg;refine b.cells j c g bs e (a.cells j c g bs e hj hg) λhm=>?_;by_cases h0:g=0
  .exact h0
  .rcases hy g hm h0 with h3|h3
   .exact hg h3
   .have:=hw.dW j c g bs e hj;omega
 .intro g hg hx;have hx1:Y g->g=0:=λhm=>by
   by_cases h0:g=0
   .exact h0
   .rcases hy g hm h0 with h3|h3
    .exact hx h3
    .omega
  rw[b.oi g (abU hg a.next) hx1,a.oi g hg hx]
 .intro j hj;rw[b.used j (afm hj a.next),a.used j hj]
 .intro j hj hn;exact b.none j (afm hj a.next) (a.none j hj hn)
 .have hlt:=hw.mlt hj;refine b.maps j x (a.maps j x hj hx) λhy2=>?_;rcases hy _ hy2 (by omega) with h3|h3
  .exact hx h3
  .omega
theorem Fr.mono {X Y:Nat->Prop}{h h':af}(hw:WF h)(a:Fr X h h')(hs:∀g,X g->g≠0->Y g\/h.next<g):Fr Y h h':=
 Fr.trans hw (Fr.refl hw) a hs
theorem gm (j:Nat):Nat.beq j j=true:=aeP j
theorem bB {i j:Nat}(h:i≠j):Nat.beq i j=false:=by
 cases hb:Nat.beq i j with
 |true=>exact absurd (BY hb) h
 |false=>rfl
theorem vV {h:af}{b:Nat}{c:List Value}{g base:Nat}{e:TypeId}:(h.rC b c g base e).get b=some (.cells c g base e):=by
 simp[af.rC,gm]
theorem MS {h:af}{b j:Nat}{c:List Value}{g base:Nat}{e:TypeId}{c':List Value}{g' b':Nat}{e':TypeId}(hj:h.get j=some (.cells c' g' b' e'))(hg:g'≠g)(hb:j≠b) :
  (h.rC b c g base e).get j=some (.cells c' g' b' e'):=by
 simp[af.rC,bB hb,hj,bB hg]
theorem uU {h:af}{b j:Nat}{c:List Value}{g base:Nat}{e:TypeId}{k:FO}(hj:(h.rC b c g base e).get j=some k):(j=b/\k=.cells c g base e)\/(j≠b/\h.get j=some k):=by
 unfold af.rC at hj;simp only at hj;by_cases hb:j=b
 .subst hb;rw[gm] at hj;cases hj;exact .inl ⟨rfl,rfl⟩
 .rw[bB hb] at hj;refine .inr ⟨hb,?_⟩;simp only[cond_false] at hj;split at hj
  .rename_i c' g' b' e' hg;cases hq:Nat.beq g' g<;>rw[hq] at hj<;>simp at hj;rw[hg,hj]
  .exact hj
theorem WF.rC {h:af}(hw:WF h){b:Nat}{c c0:List Value}{g base base0:Nat}{e e0:TypeId}(hb:h.get b=some (.cells c0 g base0 e0)):WF (h.rC b c g base e):=by
 have hlt:b<h.next:=by
  by_cases hx:b<h.next
  .exact hx
  .rw[hw.get b (by omega)] at hb;cases hb
 refine⟨λj hj=>?_,hw.used,λj c' g' b' e' hj=>?_,hw.maps⟩
 .have h0:=hw.get j hj;have hj:h.next<=j:=hj
  cases hq:(h.rC b c g base e).get j with
  |none=>rfl
  |some k=>
   rcases uU hq with⟨h1,_⟩|⟨_,h1⟩
   .omega
   .rw[h0] at h1;cases h1
 .rcases uU hj with⟨_,h1⟩|⟨_,h1⟩
  .cases h1;exact hw.dW _ _ _ _ _ hb
  .exact hw.dW _ _ _ _ _ h1
theorem Fr.rC {h:af}(hw:WF h){b:Nat}{c c0:List Value}{g base base0:Nat}{e e0:TypeId}(h0:g≠0)(hb:h.get b=some (.cells c0 g base0 e0)):Fr (·=g) h (h.rC b c g base e):=by
 refine⟨hw.rC hb,aaR _,?_,λ_ _ _=>rfl,λ_ _=>rfl,?_,λ_ _ e _=>e⟩
 .intro j c' g' b' e' hj hg;have hg:g'≠g:=λe1=>h0 (by rw[<-e1];exact hg e1);refine MS hj hg λhjb=>?_;subst hjb;rw[hb] at hj;cases hj;exact hg rfl
 .intro j hj hn;cases hq:(h.rC b c g base e).get j with
  |none=>rfl
  |some k=>
   rcases uU hq with⟨h1,_⟩|⟨_,h1⟩
   .subst h1;rw[hn] at hb;cases hb
   .rw[hn] at h1;cases h1
theorem ki {h:af}{nm nx:Nat}{e:TypeId}{cs:List Value}:(h.dQ nm nx e cs).get nm=some (.cells cs (nm+1) 0 e):=by
 simp[af.dQ,gm]
theorem fR {h:af}{nm nx j:Nat}{e:TypeId}{cs:List Value}(hj:j≠nm):(h.dQ nm nx e cs).get j=h.get j:=by
 simp[af.dQ,bB hj]
theorem uV {h:af}{nm nx:Nat}{e:TypeId}{cs:List Value}:(h.dQ nm nx e cs).oi (nm+1)=cs.length:=by
 simp[af.dQ,gm]
theorem xx {h:af}{nm nx g:Nat}{e:TypeId}{cs:List Value}(hg:g≠nm+1):(h.dQ nm nx e cs).oi g=h.oi g:=by
 simp[af.dQ,bB hg]
theorem WF.dQ {h:af}(hw:WF h){nm nx:Nat}(h1:nm<nx)(h2:h.next<=nx){e:TypeId}{cs:List Value}:WF (h.dQ nm nx e cs):=by
 refine⟨λj hj=>?_,λj hj=>?_,λj c g b e' hj=>?_,λj hj=>hw.maps j (abU h2 hj)⟩
 .have hj:nx<=j:=hj;rw[fR (by omega)];exact hw.get j (by omega)
 .have hj:nx<=j:=hj;simp[af.dQ,bB (show j≠nm by omega)];exact hw.used j (by omega)
 .by_cases hn:j=nm
  .subst hn;rw[ki] at hj;cases hj;exact h1
  .rw[fR hn] at hj;exact abU (hw.dW _ _ _ _ _ hj) h2
theorem WF.new {h:af}(hw:WF h){e:TypeId}{cs:List Value}:WF (h.new e cs):=hw.dQ (aar _) (afr _)
theorem Fr.new {h:af}(hw:WF h){e:TypeId}{cs:List Value}:Fr (λ_=>False) h (h.new e cs):=by
 refine⟨hw.new,afr _,?_,?_,?_,?_,λ_ _ e _=>e⟩
 .intro j c g b e' hj _;rw[af.new,fR]
  .exact hj
  .intro hn;subst hn;rw[hw.get _ (aaR _)] at hj;cases hj
 .intro g hg _;exact xx (by omega)
 .intro j hj;simp[af.new,af.dQ,bB (show j≠h.next by omega)]
 .intro j hj hn;rw[af.new,fR (by omega)];exact hn
theorem WF.eS {h:af}(hw:WF h){n:Nat}:WF { h with next:=h.next+n }:=
 ⟨λj hj=>hw.get j (by simp at hj;omega),λj hj=>hw.used j (by simp at hj;omega),λj c g b e hj=>abU (hw.dW j c g b e hj) (by simp),λj hj=>hw.maps j (by simp at hj;omega)⟩
theorem Fr.eS {h:af}(hw:WF h){n:Nat}:Fr (λ_=>False) h { h with next:=h.next+n }:=
 ⟨hw.eS,by simp,λ_ _ _ _ _ e _=>e,λ_ _ _=>rfl,λ_ _=>rfl,λ_ _ e=>e,λ_ _ e _=>e⟩
theorem Fr.dQ {X:Nat->Prop}{h0 h:af}(hw:WF h0)(a:Fr X h0 h){k:Nat}(hk:h0.next<=k)(hk2:k<h.next){e:TypeId}{cs:List Value}:Fr X h0 (h.dQ k h.next e cs):=by
 refine⟨a.wf.dQ hk2 (aaR _),a.next,?_,?_,?_,?_,λj x hj hx=>a.maps j x hj hx⟩
 .intro j c g b e' hj hg;have:=a.cells j c g b e' hj hg;by_cases hn:j=k
  .subst hn;rw[hw.get j hk] at hj;cases hj
  .rw[fR hn];exact this
 .intro g hg hx;rw[xx (by omega)];exact a.oi g hg hx
 .intro j hj;have:j≠k:=by omega
  simp[af.dQ,bB this];exact a.used j hj
 .intro j hj hn;rw[fR (by omega)];exact a.none j hj hn
def qQ (h:af)(s:Sl)(sz:Nat)(e:TypeId)(cs:List Value)(g:Nat):Prop:=
 cs.length=s.len*sz/\((s=⟨none,0,0⟩/\g=0)\/(0<g/\g<=h.next/\(s.cap=0\/s.cap=s.len+1)/\∃b base,s.a=some ⟨b,0,none⟩/\h.get b=some (.cells cs g base e)/\h.oi g=base+cs.length))
theorem qQ.nil {h:af}{sz:Nat}{e:TypeId}:qQ h ⟨none,0,0⟩ sz e [] 0:=⟨by simp,.inl ⟨rfl,rfl⟩⟩
theorem qQ.fr {h h':af}{s:Sl}{sz:Nat}{e:TypeId}{cs:List Value}{g:Nat}{X:Nat->Prop}(o:qQ h s sz e cs g)(f:Fr X h h')(hg:X g->g=0):qQ h' s sz e cs g:=by
 obtain⟨h1,h2⟩:=o;refine⟨h1,?_⟩;rcases h2 with h2|⟨h2,h3,h4,b,base,h5,h6,h7⟩
 .exact .inl h2
 .exact .inr ⟨h2,abU h3 f.next,h4,b,base,h5,f.cells _ _ _ _ _ h6 hg,by rw[f.oi g h3 hg];exact h7⟩
theorem qQ.ar {h:af}{s:Sl}{sz:Nat}{e:TypeId}{cs:List Value}{g:Nat}(o:qQ h s sz e cs g)(hn:s.len≠0) :
  ∃b base,s.a=some ⟨b,0,none⟩/\h.get b=some (.cells cs g base e)/\g≠0:=by
 obtain⟨_,h2⟩:=o;rcases h2 with⟨rfl,_⟩|⟨h2,h3,h4,b,base,h5,h6,h7⟩
 .exact absurd rfl hn
 .exact⟨b,base,h5,h6,by omega⟩
theorem qQ.le {h:af}{s:Sl}{sz:Nat}{e:TypeId}{cs:List Value}{g:Nat}(o:qQ h s sz e cs g):g<=h.next:=by
 obtain⟨_,h2⟩:=o;rcases h2 with⟨_,h2⟩|⟨h2,h3,_⟩<;>omega
theorem qQ.read {h:af}{s:Sl}{sz:Nat}{e:TypeId}{cs:List Value}{g:Nat}(o:qQ h s sz e cs g):aX h s.a (s.len*sz)=some cs:=by
 obtain⟨h1,h2⟩:=o;rcases h2 with⟨rfl,_⟩|⟨h2,h3,h4,b,base,h5,h6,h7⟩
 .simp at h1;subst h1;simp[aX]
 .rw[h5];simp[aX,h6,<-h1]
theorem qQ.rC {h:af}{s:Sl}{sz:Nat}{e:TypeId}{cs cs':List Value}{g b base:Nat}(o:qQ h s sz e cs g)(hl:cs'.length=cs.length)(hn:s.len≠0)
  (ha:s.a=some ⟨b,0,none⟩) (hb:h.get b=some (.cells cs g base e)):qQ (h.rC b cs' g base e) s sz e cs' g:=by
 obtain⟨h1,h2⟩:=o;rcases h2 with⟨rfl,_⟩|⟨h2,h3,h4,b2,base2,h5,h6,h7⟩
 .exact absurd rfl hn
 .rw[ha] at h5;cases h5;rw[hb] at h6;cases h6;exact⟨by omega,.inr ⟨h2,h3,h4,b,base,ha,vV,by rw[hl];exact h7⟩⟩
theorem qQ.app {h:af}{s:Sl}{sz:Nat}{e:TypeId}{cs new:List Value}{g n:Nat}{st:Bool}{Q:Sl->af->Prop}(o:qQ h s sz e cs g)(hw:WF h)(hn:n≠0)(hl:new.length=n*sz)(hb:s.len+n<=cK)
  (hq:∀s' h' g',s'.len=s.len+n->s'.cap=0->qQ h' s' sz e (cs++new) g'->(g'=g/\g≠0\/g'=h.next+1)->Fr (·=g) h h'->Q s' h'):Wp (Ago.app st s sz e n new) h Q:=by
 obtain⟨h1,h2⟩:=o;have hnx:=hw.get h.next (aaR _)
 have key:Ago.app st s sz e n new h=tB st s sz e n new h:=by unfold Ago.app;simp[hnx]
 suffices hh:∃s' h' ,tB st s sz e n new h=some (s',h')/\Q s' h' by
  obtain⟨s',h',e1,e2⟩:=hh;exact⟨s',h',by rw[key];exact e1,e2⟩
 have fresh:qQ (h.new e (cs++new)) ⟨some ⟨h.next,0,none⟩,s.len+n,0⟩ sz e (cs++new) (h.next+1):=
  ⟨by simp[h1,hl,adv],.inr ⟨by omega,by simp[af.new,af.dQ],.inl rfl,h.next,0,rfl,ki,by rw[af.new,uV];simp⟩⟩
 have ffr:Fr (·=g) h (h.new e (cs++new)):=(Fr.new hw).mono hw (λ_ hx _=>hx.elim)
 rcases h2 with⟨rfl,rfl⟩|⟨h2,h3,h4,b,base,h5,h6,h7⟩
 .have hc:cs=[]:=abn (by simpa using h1);subst hc;refine⟨_,_,?_,hq _ _ _ rfl rfl fresh (.inr rfl) ffr⟩;unfold tB;rw[if_neg hn];simp only[adr] at hb⊢;rw[if_neg (by simp[hb,hl])];simp
 .have hcells:aX h (some ⟨b,0,none⟩) (s.len*sz)=some cs:=by simp[aX,h6,<-h1]
  rcases h4 with h4|h4
  ·-- in the same group
   refine⟨⟨some ⟨h.next,0,none⟩,s.len+n,0⟩,{ h with get:=λj=>cond (Nat.beq j h.next) (some (.cells (cs++new) g (base+0) e)) (h.get j),next:=h.next+1,oi:=λg'=>cond (Nat.beq g' g) (base+0+s.len*sz+new.length) (h.oi g'),used:=λj=>cond (Nat.beq j h.next) true (h.used j) },?_,hq _ _ g rfl rfl ?_ (.inl ⟨rfl,by omega⟩) ?_⟩
   .unfold tB;rw[if_neg hn,if_neg (by simp[hb,hl]),h5];simp only[hcells,h6];rw[if_neg (by simp[h4]),if_neg (by simp[h4])];rw[if_pos ⟨by omega,trivial⟩];rw[if_pos (by simp[h7,h1])]
   .refine⟨by simp[h1,hl,adv],.inr ⟨h2,by simp;omega,.inl rfl,h.next,base+0,rfl,by simp[gm],?_⟩⟩
    simp[gm,h1];omega
   .refine⟨⟨λj hj=>?_,λj hj=>?_,λj c g' b' e' hj=>?_,λj hj=>hw.maps j (by simp at hj;omega)⟩,afr _,?_,?_,?_,?_,λ_ _ e _=>e⟩
    .simp at hj;simp[bB (show j≠h.next by omega)];exact hw.get j (by omega)
    .simp at hj;simp[bB (show j≠h.next by omega)];exact hw.used j (by omega)
    .simp only at hj;by_cases hjn:j=h.next
     .subst hjn;simp[gm] at hj;simp;omega
     .simp[bB hjn] at hj;have:=hw.dW _ _ _ _ _ hj;simp;omega
    .intro j c g' b' e' hj _;have:j≠h.next:=λhjn=>by subst hjn;rw[hnx] at hj;cases hj
     simp[bB this];exact hj
    .intro g' _ hx;have:g'≠g:=λhx2=>(by have:=hx hx2;omega);simp[bB this]
    .intro j hj;simp[bB (show j≠h.next by omega)]
    .intro j hj hx;simp[bB (show j≠h.next by omega)];exact hx
  .refine⟨_,_,?_,hq _ _ _ rfl rfl fresh (.inr rfl) ffr⟩;unfold tB;rw[if_neg hn,if_neg (by simp[hb,hl]),h5];simp only[hcells,h6];rw[if_neg (by simp[h4];omega),if_pos (by omega)]
theorem jW {enc:α->List Value}{sz:Nat}(he:∀x,(enc x).length=sz):∀(L:List α),(L.flatMap enc).length=L.length*sz
 |[]=>by simp
 |x::L=>by rw[adC,aaQ,he,jW he L,OF,adv,afB,ahk]
theorem GV {enc:α->List Value}{sz:Nat}(he:∀x,(enc x).length=sz):∀(L:List α) (i:Nat),(L.flatMap enc).drop (i*sz)=(L.drop i).flatMap enc
 |L,0=>by simp
 |[],i+1=>by simp
 |x::L,i+1=>by
  rw[adC,List.drop_succ_cons,<-GV he L i,adv,afB,ahk,<-afK]
  congr 1
  rw[<-he x,List.drop_left]
theorem Q0 {enc:α->List Value}{sz:Nat}(he:∀x,(enc x).length=sz){L:List α}{i:Nat}{x:α}(hi:L[i]?=some x):((L.flatMap enc).drop (i*sz)).take sz=enc x:=by
 rw[GV he];have hlt:=(List.getElem?_eq_some_iff.1 hi).1;have hd:L.drop i=x::L.drop (i+1):=by
  rw[aee hlt];rw[(List.getElem?_eq_some_iff.1 hi).2]
 rw[hd,adC,<-he x,List.take_left]
theorem KX {enc:α->List Value}{sz:Nat}(he:∀x,(enc x).length=sz){L:List α}{i:Nat}{x x':α}(hi:L[i]?=some x){o:Nat}{vs:List Value}(ho:o+vs.length<=sz)(hx:enc x'=aY (enc x) o vs) :
  aY (L.flatMap enc) (i*sz+o) vs=(L.set i x').flatMap enc:=by
 have hlt:=(List.getElem?_eq_some_iff.1 hi).1;have hL:L=L.take i++x::L.drop (i+1):=by
  have hd:L.drop i=x::L.drop (i+1):=by
   rw[aee hlt];rw[(List.getElem?_eq_some_iff.1 hi).2]
  rw[<-hd,agC]
 have hs:L.set i x'=L.take i++x'::L.drop (i+1):=by rw[afJ,if_pos hlt]
 have hl:((L.take i).flatMap enc).length=i*sz:=by rw[jW he,adw,agp (afM hlt)]
 rw[hs,afQ,adC,hx]
 conv=>lhs;rw[hL]
 rw[afQ,adC];unfold aY;rw[<-hl,List.take_length_add_append,age,List.drop_length_add_append,List.take_append_of_le_length (by rw[he];omega),List.drop_append_of_le_length (by rw[he];omega)];simp
structure LB (h:af) (b:Nat) (cs:List Value) (e:TypeId):Prop where
 get:h.get b=some (.cells cs (b+1) 0 e)
theorem LB.new {h:af}{e:TypeId}{cs:List Value}:LB (h.new e cs) h.next cs e:=⟨ki⟩
theorem LB.fr {h h':af}{b:Nat}{cs:List Value}{e:TypeId}{X:Nat->Prop}(l:LB h b cs e)(f:Fr X h h')(hx:¬X (b+1)):LB h' b cs e:=⟨f.cells _ _ _ _ _ l.get λhm=>absurd hm hx⟩
theorem LB.lt {h:af}{b:Nat}{cs:List Value}{e:TypeId}(l:LB h b cs e)(hw:WF h):b<h.next:=by
 have:=hw.dW _ _ _ _ _ l.get;omega
theorem LB.st {h:af}{b o:Nat}{cs vs:List Value}{e:TypeId}(l:LB h b cs e)(hw:WF h)(ho:o+vs.length<=cs.length)(hv:vs.all eQ=true){Q:Unit->af->Prop}
  (hq:∀h',LB h' b (aY cs o vs) e->Fr (·=b+1) h h'->Q () h'):Wp (bG ⟨b,o,none⟩ vs) h Q:=by
 rw[HO];exact⟨cs,b+1,0,e,l.get,by omega,ho,hv,hq _ ⟨vV⟩ (Fr.rC hw (by omega) l.get)⟩
theorem LB.ld {h:af}{b o:Nat}{cs:List Value}{e:TypeId}(l:LB h b cs e){lf:eF}{v:Value}{x:lf.den}(hv:cs[o]?=some v)(hx:yI lf v=some x):h.ld lf b o=some x:=by
 unfold af.ld;rw[l.get];simp only[hv];exact hx
theorem LB.fI {h:af}{b o:Nat}{cs:List Value}{e:TypeId}(l:LB h b cs e){ls:List eF}{x:bN ls}(hl:o+ls.length<=cs.length)(hx:vF ls ((cs.drop o).take ls.length)=some x):h.fI ls b o=some x:=by
 unfold af.fI;rw[l.get];simp only[hl,if_true];exact hx
theorem Fr.fresh {X Y:Nat->Prop}{h0 h h':af}(hw:WF h0)(a:Fr X h0 h)(b:Fr Y h h')(hg:∀g,Y g->X g\/h0.next<g):Fr X h0 h':=a.trans hw b λg hy _=>hg g hy
theorem HQ {e:TypeId}{z:List Value}{l c:Int}{h:af}{Q:Sl->af->Prop}(h1:0<=l)(h2:l<=c)(h3:c<=cK)(q:Q ⟨some ⟨h.next,0,none⟩,l.toNat,c.toNat+1⟩ (h.new e (List.replicate c.toNat z).flatten))(hz:z.all eQ=true:=by rfl):Wp (vc none e z l c) h Q:=by
 have hs:(List.replicate c.toNat z).flatten.all eQ=true:=by
  rw[adx];intro v hv;rw[afL] at hv;obtain⟨q,q1,q2⟩:=hv;rw[adt q1] at q2;exact List.all_eq_true.1 hz v q2
 exact⟨_,_,by unfold vc aO;rw[if_pos ⟨h1,h2,h3⟩,if_pos hs],q⟩
theorem T0 {k:Nat}{e:TypeId}{z:List Value}{l c:Int}{h:af}{Q:Sl->af->Prop}(h1:0<=l)(h2:l<=c)(h3:c<=cK)(k1:h.used k=false)(k2:k<h.next)(k3:h.get k=none)
  (q:Q ⟨some ⟨k,0,none⟩,l.toNat,c.toNat+1⟩ (h.dQ k h.next e (List.replicate c.toNat z).flatten)) (hz:z.all eQ=true:=by rfl):Wp (vc (some k) e z l c) h Q:=by
 have hs:(List.replicate c.toNat z).flatten.all eQ=true:=by
  rw[adx];intro v hv;rw[afL] at hv;obtain⟨q,q1,q2⟩:=hv;rw[adt q1] at q2;exact List.all_eq_true.1 hz v q2
 exact⟨_,_,by unfold vc aO;rw[if_pos ⟨h1,h2,h3⟩,if_pos hs];simp only;rw[if_pos ⟨k1,k2,by simp[k3]⟩],q⟩
theorem Bx {s:Sl}{lo hi:Int}{e:TypeId}{z:Nat}{h:af}{Q:Sl->af->Prop}(h1:0<=lo)(h2:lo<=hi)(h3:hi<=s.len)(h4:np h s e=true)
  (q:Q ⟨s.a.map (·.plus (lo.toNat*z)),hi.toNat-lo.toNat,s.cap-(if s.cap=0 then 0 else lo.toNat)⟩ h):Wp (kJ s lo hi e z) h Q:=
 ⟨_,_,by unfold kJ;rw[if_pos ⟨h1,h2,h3,h4⟩],q⟩
theorem xy {m:M α}{as:List (Option Addr)}{h:af}{Q:α->af->Prop}(hm:Wp m h λx h'=>(∀a,some a∈as->h'.get a.block=h.get a.block)/\Q x h'):Wp (kG as m) h Q:=by
 obtain⟨x,h',e,hs,q⟩:=hm;refine⟨x,h',?_,q⟩;have:sameAt h h' as=true:=by
  clear e q
  induction as with
  |nil=>rfl
  |cons a r ih=>
   have ih:=ih λa ha=>hs a (AT _ ha);cases a with
   |none=>exact ih
   |some b=>
    have hb:=hs b (by simp);unfold sameAt;cases h.dec (h.get b.block=h'.get b.block) with
    |isTrue _=>exact ih
    |isFalse hn=>exact absurd hb.symm hn
 unfold kG;rw[e];simp only[this]
theorem XK {k:Nat}{m:M α}{h:af}{Q:α->af->Prop}(hm:Wp m h λx h1=>BP k m h x h1/\Q x h1):Wp (Bm k m) h Q:=by
 obtain⟨x,h1,e,hb,q⟩:=hm;refine⟨x,h1,?_,q⟩;unfold Bm;rw[e];simp only;split
 .rfl
 .rename_i hn _;exact absurd hb hn
theorem jX {cs:List Ty}{x:Value}{c:aM cs}{h:af}{Q:aM cs->af->Prop}(hx:uO cs (Hh x)=some c)(q:Q c h):Wp (oX cs x) h Q:=
 ⟨c,h,by unfold oX;rw[hx],q⟩
theorem abh {k k':IntKind}(h:OL k k'=true):k=k':=by cases k<;>cases k'<;>simp_all[OL,OJ]
theorem zG {a b:ByteArray}(h:mI a b=true):a=b:=by
 unfold mI at h;have h:=beq_iff_eq.1 h;rw[ByteArray.toList_eq,ByteArray.toList_eq] at h;cases a;cases b;simp at h;rw[h]
theorem O6 {v u:Value}(h:As v u=true):v=u:=by
 cases v<;>cases u<;>simp only[As,IT,decide_eq_true_eq] at h<;>try cases h
 .rename_i a b;simp at h;rw[h]
 .rename_i h1 h2;rw[abh h1,h2]
 .rw[zG h]
theorem O7:∀{xs ys:List Value},xi xs ys=true->xs=ys
 |[],[],_=>rfl
 |[],_::_,h=>by cases h
 |_::_,[],h=>by cases h
 |x::xs,y::ys,h=>by
  simp only[xi,IT] at h;rw[O6 h.1,O7 h.2]
theorem EL {x y:Value}(h:vG x y=true):x=y:=by
 unfold vG at h;split at h
 .rw[Array.toList_inj.1 (O7 h)]
 .exact O6 h
theorem vW {k v k':Value}{c:Nat}:∀{es:List nh},wM k' (px k v c es)=if vG k' k then some v else wM k' es
 |[]=>by simp only[px,wM,fY];cases vG k' k<;>rfl
 |e::r=>by
  have ih:=vW (k:=k) (v:=v) (k':=k') (c:=c) (es:=r);simp only[px];cases hq:vG k e.key
  .simp only[wM,fY] at ih⊢;cases h2:vG k' e.key
   .simp only;exact ih
   .have e1:=EL h2;simp only;cases h3:vG k' k
    .simp
    .have e2:=EL h3;rw[<-e2,e1] at hq;rw[e1] at h2;rw[hq] at h2;cases h2
  .have e1:=EL hq;simp only[wM,fY];rw[<-e1];cases h3:vG k' k<;>simp
theorem AM {k v:Value}{c:Nat}:∀{es:List nh},(px k v c es).length=if (fY k es).isSome then es.length else es.length+1
 |[]=>rfl
 |e::r=>by
  have ih:=AM (k:=k) (v:=v) (c:=c) (es:=r);by_cases hq:vG k e.key=true
  .simp[px,fY,hq]
  .have hq:vG k e.key=false:=by simpa using hq
   simp only[px,fY,hq,OF];rw[ih];split<;>rfl
def pK (c:Nat):List nh->Prop
 |[]=>True
 |e::r=>e.born<c/\(∀x∈r,x.born≠e.born)/\pK c r
theorem pK.mono {c c':Nat}(hc:c<=c'):∀{es:List nh},pK c es->pK c' es
 |[],_=>trivial
 |e::r,h=>⟨afm h.1 hc,h.2.1,pK.mono hc h.2.2⟩
theorem pK.lt {c:Nat}:∀{es:List nh},pK c es->∀e∈es,e.born<c
 |[],_=>by simp
 |e::r,h=>λx hx=>by
  rcases List.mem_cons.1 hx with rfl|hx
  .exact h.1
  .exact pK.lt h.2.2 x hx
theorem GW {k v:Value}{c:Nat}:∀{es:List nh},∀x∈px k v c es,(∃y∈es,x.born=y.born)\/x.born=c
 |[]=>by simp[px]
 |e::r=>by
  intro x hx;simp only[px] at hx;split at hx
  .rcases List.mem_cons.1 hx with rfl|hx
   .exact .inl ⟨e,by simp,rfl⟩
   .exact .inl ⟨x,AT _ hx,rfl⟩
  .rcases List.mem_cons.1 hx with rfl|hx
   .exact .inl ⟨x,by simp,rfl⟩
   .rcases GW x hx with⟨y,h1,h2⟩|h1
    .exact .inl ⟨y,AT _ h1,h2⟩
    .exact .inr h1
theorem pK.put {k v:Value}{c c':Nat}(hc:c<=c'):∀{es:List nh},pK c es->(fY k es=none->c<c')->pK c' (px k v c es)
 |[],_,h=>⟨h rfl,by simp,trivial⟩
 |e::r,hs,h=>by
  simp only[px];simp only[fY] at h;cases hq:vG k e.key
  .rw[hq] at h;refine⟨afm hs.1 hc,λx hx=>?_,pK.put hc hs.2.2 h⟩;rcases GW x hx with⟨y,h1,h2⟩|h1
   .rw[h2];exact hs.2.1 y h1
   .rw[h1];have:=hs.1;omega
  .exact⟨afm hs.1 hc,hs.2.1,hs.2.2.mono hc⟩
structure MB (h:af) (m:Nat) (kt:TypeId) (f:Value->Option Value) (n:Nat):Prop where
 ex:∃c es,h.jf m=some ⟨kt,c,es⟩/\pK c es/\(∀k,wM k es=f k)/\es.length=n
theorem MB.lt {h:af}{m:Nat}{kt:TypeId}{f:Value->Option Value}{n:Nat}(l:MB h m kt f n)(hw:WF h):m<h.next:=by
 obtain⟨c,es,h1,_⟩:=l.ex;exact hw.mlt h1
theorem MB.fr {h h':af}{m:Nat}{kt:TypeId}{f:Value->Option Value}{n:Nat}{X:Nat->Prop}(l:MB h m kt f n)(fr:Fr X h h')(hx:¬X (m+1)):MB h' m kt f n:=by
 obtain⟨c,es,h1,h2⟩:=l.ex;exact⟨c,es,fr.maps _ _ h1 hx,h2⟩
theorem EM {h:af}{m:Nat}{kt:TypeId}{c:Nat}{es:List nh}(hm:h.jf m=some ⟨kt,c,es⟩):h.uz kt m=some (c,es):=by
 unfold af.uz;rw[hm];simp[gm]
theorem T4 {kt:TypeId}{h:af}(hw:WF h){Q:Nat->af->Prop}(hq:∀h',MB h' h.next kt (λ_=>none) 0->Fr (λ_=>False) h h'->Q h.next h'):Wp (At kt) h Q:=by
 refine⟨_,_,rfl,hq _ ⟨0,[],by simp[af.mJ,gm],trivial,λ_=>rfl,rfl⟩ ⟨⟨λj hj=>?_,λj hj=>?_,λj c g b e hj=>?_,λj hj=>?_⟩,afr _,λ_ _ _ _ _ e _=>e,λ_ _ _=>rfl,λj hj=>?_,λ_ _ e=>e,λj x hj _=>?_⟩⟩
 .exact hw.get j (by simp at hj;omega)
 .simp at hj;simp[bB (show j≠h.next by omega)];exact hw.used j (by omega)
 .exact abU (hw.dW j c g b e hj) (by simp)
 .simp at hj;simp[af.mJ,bB (show j≠h.next by omega)];exact hw.maps j (by omega)
 .simp[bB (show j≠h.next by omega)]
 .have:=hw.mlt hj;simp[af.mJ,bB (show j≠h.next by omega)];exact hj
theorem Fr.mJ {h:af}(hw:WF h){m:Nat}{x:Xh}(hlt:m<h.next):Fr (·=m+1) h (h.mJ m x):=by
 refine⟨⟨hw.get,hw.used,hw.dW,λj hj=>?_⟩,aaR _,λ_ _ _ _ _ e _=>e,λ_ _ _=>rfl,λ_ _=>rfl,λ_ _ e=>e,λj x hj hx=>?_⟩
 .have hj:h.next<=j:=hj
  simp[af.mJ,bB (show j≠m by omega)];exact hw.maps j hj
 .have:j≠m:=λe=>hx (by rw[e]);simp[af.mJ,bB this];exact hj
theorem MB.af3 {h:af}{m:Nat}{kt:TypeId}{f:Value->Option Value}{n:Nat}(l:MB h m kt f n){T:Ty}{z:T.den}{k:Value}{Q:Bool×T.den->af->Prop}
  (h1:∀v,f k=some v->∃x,JQ T v=some x/\Q (true,x) h) (h2:f k=none->Q (false,z) h):Wp (wN kt T z (some m) k) h Q:=by
 obtain⟨c,es,e1,_,e2,_⟩:=l.ex;unfold Wp wN;simp only[EM e1,e2];cases hf:f k with
 |none=>exact⟨_,_,rfl,h2 hf⟩
 |some v=>
  obtain⟨x,hx,q⟩:=h1 v hf;simp only[hx];exact⟨_,_,rfl,q⟩
def wX (f:Value->Option Value)(k v:Value):Value->Option Value:=λk'=>if vG k' k then some v else f k'
theorem MB.af4 {h:af}{m:Nat}{kt:TypeId}{f:Value->Option Value}{n:Nat}(l:MB h m kt f n)(hw:WF h){k v:Value}{Q:Unit->af->Prop}
  (hq:∀h',MB h' m kt (wX f k v) (if (f k).isSome then n else n+1)->Fr (·=m+1) h h'->Q () h'):Wp (Ch kt (some m) k v) h Q:=by
 have hlt:=l.lt hw;obtain⟨c,es,e1,e3,e2,e4⟩:=l.ex;unfold Wp Ch;simp only[EM e1];have hk:(fY k es).isSome=(f k).isSome:=by rw[<-e2 k];unfold wM;cases fY k es<;>rfl
 refine⟨(),h.mJ m ⟨kt,(match fY k es with|some _=>c|none=>c+1),px k v c es⟩,rfl,hq _ ⟨_,_,by simp[af.mJ,gm];exact⟨rfl,rfl⟩,?_,λk'=>?_,?_⟩ (Fr.mJ hw hlt)⟩
 .cases hm:fY k es with
  |none=>exact e3.put (afr _) λ_=>aar _
  |some x=>exact e3.put (aaR _) λhn=>by rw[hm] at hn;cases hn
 .rw[vW,e2];rfl
 .rw[AM,hk,e4]
theorem MB.len {h:af}{m:Nat}{kt:TypeId}{f:Value->Option Value}{n:Nat}(l:MB h m kt f n){Q:Nat->af->Prop}(q:Q n h):Wp (Ci (some m)) h Q:=by
 obtain⟨c,es,e1,_,_,e4⟩:=l.ex;exact⟨n,h,by unfold Ci;simp only[e1,e4],q⟩
def AN (h:af)(m:Nat)(k:Value)(st:Nat):Prop:=∃x,h.jf m=some x/\∃e,fY k x.es=some e/\e.born=st
theorem AN.fr {h h':af}{m:Nat}{k:Value}{st:Nat}{X:Nat->Prop}(l:AN h m k st)(fr:Fr X h h')(hx:¬X (m+1)):AN h' m k st:=by
 obtain⟨x,h1,h2⟩:=l;exact⟨x,fr.maps _ _ h1 hx,h2⟩
theorem EN {k v:Value}{c:Nat}(hk:vG k k=true):∀{es:List nh},fY k es=none->fY k (px k v c es)=some ⟨k,v,c⟩
 |[],_=>by simp[px,fY,hk]
 |e::r,h=>by
  simp only[fY] at h;simp only[px];cases hq:vG k e.key
  .rw[hq] at h;simp only[fY,hq];exact EN hk h
  .rw[hq] at h;cases h
theorem MB.entry {h:af}{m:Nat}{kt:TypeId}{f:Value->Option Value}{n:Nat}(l:MB h m kt f n)(hw:WF h){T:Ty}{z:T.den}{k:Value}(hk:vG k k=true){Q:T.den×Nat->af->Prop}
  (h1:∀v,f k=some v->∃x,JQ T v=some x/\∀st,AN h m k st->Q (x,st) h)
  (h2:f k=none->∀h' st,MB h' m kt (wX f k (Cg T z)) (n+1)->AN h' m k st->Fr (·=m+1) h h'->Q (z,st) h'):Wp (vH kt T z (some m) k) h Q:=by
 have hlt:=l.lt hw;obtain⟨c,es,e1,e3,e2,e4⟩:=l.ex;unfold Wp vH;simp only[EM e1];cases hm:fY k es with
 |none=>
  have hf:f k=none:=by rw[<-e2];unfold wM;rw[hm];rfl
  refine⟨_,_,rfl,h2 hf _ _ ⟨c+1,px k (Cg T z) c es,by simp[af.mJ,gm],e3.put (afr _) λ_=>aar _,λk'=>?_,?_⟩ ⟨⟨kt,c+1,px k (Cg T z) c es⟩,by simp[af.mJ,gm],⟨k,Cg T z,c⟩,EN hk hm,rfl⟩ (Fr.mJ hw hlt)⟩
  .rw[vW,e2];rfl
  .rw[AM,hm,e4];rfl
 |some e=>
  have hf:f k=some e.val:=by rw[<-e2];unfold wM;rw[hm];rfl
  obtain⟨x,hx,q⟩:=h1 _ hf;simp only[hx];exact⟨_,_,rfl,q _ ⟨_,e1,e,hm,rfl⟩⟩
theorem EO {k v:Value}{c:Nat}:∀{es:List nh} {e:nh},pK c es->fY k es=some e->Gz e.born v es=some (px k v c es)
 |[],e,_,h=>by cases h
 |x::r,e,hs,h=>by
  simp only[fY] at h;simp only[Gz,px];cases hq:vG k x.key
  .rw[hq] at h;have hmem:∀{es:List nh},fY k es=some e->e∈es:=by
    intro es
    induction es with
    |nil=>intro h;cases h
    |cons y r ih=>
     intro h;simp only[fY] at h;split at h
     .cases h;simp
     .exact AT _ (ih h)
   have hne:=hs.2.1 e (hmem h);rw[bB (λe2=>hne e2.symm)];simp only;rw[EO hs.2.2 h]
  .rw[hq] at h;cases h;simp only[gm];rw[EL hq]
theorem MB.store {h:af}{m:Nat}{kt:TypeId}{f:Value->Option Value}{n:Nat}(l:MB h m kt f n)(hw:WF h){k v:Value}{st:Nat}(hs:AN h m k st){Q:Unit->af->Prop}
  (hq:∀h',MB h' m kt (wX f k v) n->Fr (·=m+1) h h'->Q () h'):Wp (vI (some m) (st:Int) v) h Q:=by
 have hlt:=l.lt hw;obtain⟨c,es,e1,e3,e2,e4⟩:=l.ex;obtain⟨x,h1,e,h2,rfl⟩:=hs;rw[e1] at h1;cases h1;have hp:=EO (v:=v) e3 h2;have hd:decide (0<=((e.born:Nat):Int))=true:=by simp
 unfold Wp vI;simp only[e1,hd,IS,hp];refine⟨(),h.mJ m ⟨kt,c,px k v c es⟩,rfl,hq _ ⟨c,px k v c es,by simp[af.mJ,gm],e3.put (aaR _) (λhn=>by simp only at h2;rw[h2] at hn;cases hn),λk'=>?_,?_⟩ (Fr.mJ hw hlt)⟩
 .rw[vW,e2];rfl
 .simp only at h2;rw[AM,h2,e4];rfl
end Go.Ago
