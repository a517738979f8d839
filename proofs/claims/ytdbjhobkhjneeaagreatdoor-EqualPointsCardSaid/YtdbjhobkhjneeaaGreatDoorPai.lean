
import Derived.Test.YtdbjhobkhjneeaaGreatDoorPah
set_option linter.all false
namespace Go.Sh
open Go Go.Ago Go.Proofs
section
variable {α β:Type}{h h' h0:aj}{L:List bJ}{Q:β->aj->Prop}
abbrev vb (b:UInt8):ο:=.int .u8 (b.toNat:Int)
def IQ {m:M α}{f:α->M β}{x:α}{h1:aj}(e:m h=some (x,h1))(q:Wp (f x) h1 Q):Wp (sh m f) h Q:=by
 rw[ag];exact⟨x,h1,e,q⟩
def BS (bb:Nat)(p:θ)(s:Sl)(l:List UInt8)(g:Nat):List bJ:=[.au bb [.pointer p,aC s] fO,.sl s 1 gT (l.map vb) g]
def DK (h0 h:aj)(bb:Nat)(l:List UInt8)(L:List bJ):Prop:=∃p s g,(p=none\/p=some (ak bb))/\(l=[]->s=pH)/\Z h0 h (BS bb p s l g++L)
def Tz (z:Z h0 h L){f:Nat->M β}(q:∀bb h',DK h0 h' bb [] L->Wp (f bb) h' Q):Wp (sh (iB none fO [Value.pointer none,aI]) f) h Q:=by
 refine z.new λbb h1 z1 _=>q bb h1 ?_;have z2:=Z.add z1 (Fr.refl z1.wf) (o:=.sl pH 1 gT [] 0) uU.nil (.inl rfl);exact⟨none,pH,0,.inl rfl,λ_=>rfl,z2.perm (.swap _ _ _)⟩
def Ey {n bb:Nat}{l:List UInt8}(b:DK h0 h bb l L):Wp (fI n (some (ak bb))) h λ_ h'=>DK h0 h' bb l L:=by
 obtain⟨p,s,g,hp,hs,z⟩:=b;unfold fI;refine aR ?_;refine z.ld 0 (o:=0) (l:=.ptr) (x:=p) ?_;rcases hp with rfl|rfl
 .rw[By (by rfl)];have lb:LB h bb [.pointer none,aC s] fO:=z.get 0 rfl;refine aR ?_;refine IQ (x:=ak bb) (h1:=h) (by unfold inB;rw[lb.get];rfl) ?_;unfold sd;rw[ag,af];refine aR ?_;refine IQ (x:=ak bb) (h1:=h) (by unfold atB;rw[lb.get];simp) ?_;refine aR ?_;refine z.st 0 (cs':=[.pointer (some (ak bb)),aC s]) λh1 z1=>af.2 ⟨some (ak bb),s,g,.inr rfl,hs,z1⟩
 .rw[AT (by simp)];refine aR ?_;refine z.ld 0 (o:=0) (l:=.ptr) (x:=some (ak bb)) ?_;refine IQ (x:=true) (h1:=h) (by unfold eqP;simp) ?_;rw[AT (by simp)];exact af.2 ⟨some (ak bb),s,g,.inr rfl,hs,z⟩
def Mv {bb:Nat}{p:θ}{s:Sl}{l:List UInt8}{g:Nat}(z:Z h0 h (BS bb p s l g++L)):s.len=l.length:=by
 have o:uU h s 1 gT (l.map vb) g:=z.get 1 rfl;have:=o.1;simp at this;omega
def vP {n bb:Nat}{l:List UInt8}{b:UInt8}{c:Int}(hc:c=(b.toNat:Int))(B:DK h0 h bb l L)(hl:l.length+1<=cP):Wp (aD n (some (ak bb)) c) h λ_ h'=>DK h0 h' bb (l++[b]) L:=by
 subst hc;unfold aD;rw[ag];refine (Ey B).mono λ_ h1 B=>?_;obtain⟨p,s,g,hp,hs,z⟩:=B;refine aR ?_;refine z.ld 0 (o:=1) (l:=.sl) (x:=s) ?_;have hsl:=Mv z;refine Z.Rv z 1 rfl (by decide) rfl (by rw[hsl];exact hl) λs' h2 g' hs' z2 _=>?_;refine aR ?_;have z2:Z h0 h2 (.au bb [.pointer p,aC s] fO::.sl s' 1 gT ((l++[b]).map vb) g'::L):=by rw[ajt];exact z2
 refine z2.st 0 (cs':=[.pointer p,aC s']) λh3 z3=>af.2 ⟨p,s',g',hp,λe=>by simp at e,z3⟩
def Bq {n bb:Nat}{l:List UInt8}{t:ζ}(B:DK h0 h bb l L)(hl:l.length+t.size<=cP):Wp (eL n (some (ak bb)) t) h λ_ h'=>DK h0 h' bb (l++t.data.toList) L:=by
 unfold eL;rw[ag];refine (Ey B).mono λ_ h1 B=>?_;obtain⟨p,s,g,hp,hs,z⟩:=B;refine aR ?_;refine z.ld 0 (o:=1) (l:=.sl) (x:=s) ?_;have hsl:=Mv z;by_cases ht:t.size=0
 .have e1:t.data.toList=[]:=List.length_eq_zero_iff.1 ht;have e2:bI t=[]:=by unfold bI;rw[e1];rfl
  rw[ht,e2,ag];have o:uU h1 s 1 gT (l.map vb) g:=z.get 1 rfl;refine⟨s,h1,?_,?_⟩
  .show vr false s 1 gT 0 [] h1=some (s,h1);unfold vr;rw[By rfl];rcases o.2 with⟨rfl,_⟩|⟨_,_,_,b,base,e,_⟩
   .simp
   .rw[e];simp
  .refine aR ?_;rw[e1,agj];refine z.st 0 (cs':=[.pointer p,aC s]) λh3 z3=>af.2 ⟨p,s,g,hp,hs,z3⟩
 .have hcl:(bI t).length=t.size*1:=by unfold bI;rw[aeI,aes];rfl
  refine Z.Rv z 1 rfl ht hcl (by rw[hsl];exact hl) λs' h2 g' hs' z2 _=>?_;refine aR ?_;have z2:Z h0 h2 (.au bb [.pointer p,aC s] fO::.sl s' 1 gT ((l++t.data.toList).map vb) g'::L):=by rw[ajt];exact z2
  refine z2.st 0 (cs':=[.pointer p,aC s']) λh3 z3=>af.2 ⟨p,s',g',hp,λe=>?_,z3⟩;exfalso;have:=akL List.length e;rw[abO,ad8] at this;have h4:t.data.toList.length=t.size:=rfl;omega
theorem Fr.shut (hw:WF h){g:Nat}(h0:g≠0):Fr (·=g) h (h.shut g):=by
 have hg:∀j k,(h.shut g).get j=some k->h.get j=some k:=λj k hj=>by
  grind [aj.shut]
 refine⟨⟨λj hj=>?_,hw.used,λj c g' b e hj=>hw.iL j c g' b e (hg _ _ hj),hw.maps⟩,aa2 _,λj c g' b e hj hx=>?_,λ_ _ _=>rfl,λ_ _=>rfl,λj hj hn=>?_,λ_ _ e _=>e⟩
 .have:=hw.get j hj;simp only[aj.shut,this]
 .grind [aj.shut,bM]
 .simp only[aj.shut,hn]
def DB:∀l:List UInt8,bytesOf (l.map vb)=some l
 |[]=>rfl
 |b::l=>by
  simp only[ab4,bytesOf,DB l,OF]
  congr 2
  exact UInt8.toNat_inj.1 (by simp)
def Kt {n bb:Nat}{l:List UInt8}(B:DK h0 h bb l L)(hl:l.length<=1073741824):Wp (ic n (some (ak bb))) h λr h'=>r=ofBytes l/\Z h0 h' L:=by
 obtain⟨p,s,g,hp,hs,z⟩:=B;unfold ic;refine aR (aR ?_);refine z.ld 0 (o:=1) (l:=.sl) (x:=s) ?_;have hsl:=Mv z;have o:uU h s 1 gT (l.map vb) g:=z.get 1 rfl;cases l with
 |nil=>
  have e:=hs rfl;subst e;rw[ag];refine⟨none,h,rfl,?_⟩;refine z.ld 0 (o:=1) (l:=.sl) (x:=pH) ?_;rw[ag];refine⟨ofBytes [],h,rfl,af.2 ⟨rfl,z.drop.drop⟩⟩
 |cons b l=>
  have hn:s.len≠0:=by rw[hsl];simp
  obtain⟨b2,base,e1,e2,hg⟩:=o.au hn;rw[ag];refine⟨s.a,h,by rw[e1];unfold FN;simp only;rw[By hn],?_⟩;refine z.ld 0 (o:=1) (l:=.sl) (x:=s) ?_;have hr:=o.read;rw[aes] at hr;rw[ag];have hle:=o.le;have hgo:h0.next<g:=by
   have:=(z.own (.sl s 1 gT ((b::l).map vb) g) (BY _ IS)).2;exact this.resolve_left hg
  have hX:∀o∈L,o.iL=g->o.iL=0:=λo ho e=>by
   have h1:=(List.pairwise_cons.1 z.wY).2;have h2:=(List.pairwise_cons.1 h1).1 o ho;exact absurd (h2 e.symm) hg
  refine⟨ofBytes (b::l),h.shut g,?_,af.2 ⟨rfl,z.drop.drop.step (Fr.shut z.wf hg) (λg' e _=>by rw[e];exact hgo) hX⟩⟩;unfold abR;rw[e1] at hr⊢;simp only[OF,hr,e2];rw[By ⟨by omega,by rw[hsl];omega,hg,trivial⟩,DB]
end
section
variable {α β:Type}{h h' h0:aj}{L:List bJ}{Q:β->aj->Prop}
def tn (b:UInt8):List UInt8:=if b=34\/b=92 then [92,b] else [b]
def FF (t:List UInt8):List UInt8:=34::t.flatMap tn++[34]
def aaF (b:UInt8):(tn b).length<=2:=by unfold tn;split<;>simp
def G7:∀t:List UInt8,(t.flatMap tn).length<=2*t.length
 |[]=>by simp
 |b::t=>by
  rw[adr,abO,abv];have:=aaF b;have:=G7 t;omega
def byte_at {t:ζ}{i:Nat}(hi:i<t.size):∃b,t[i]?=some b/\t.data.toList[i]?=some b:=by
 have h1:i<t.data.toList.length:=hi;refine⟨t.data.toList[i],?_,abt h1⟩;rw[zu];exact abt h1
theorem u8c {b:UInt8}{c:Nat}(hc:c<256):(b.toNat:Int)=(c:Int)↔b=UInt8.ofNat c:=by
 grind [UInt8.toNat_inj,UInt8.toNat_ofNat']
theorem WI {t:ζ}{bb:Nat}(hs:t.size<=65536):∀(n i:Nat) (h:aj),t.size-i<n->i<=t.size->DK h0 h bb (34::(t.data.toList.take i).flatMap tn) L ->
  Wp (kV n t (ak bb) (t.size:Int) (i:Int)) h λ_ h'=>DK h0 h' bb (34::t.data.toList.flatMap tn) L:=by
 intro n
 induction n with
 |zero=>intro i h h1;omega
 |succ n ih=>
  intro i h h1 h2 B;rw[A7];unfold sK;have hlen:t.data.toList.length=t.size:=rfl;by_cases hi:i<t.size
  .rw[By (by simpa using hi)];obtain⟨b,hb1,hb2⟩:=byte_at hi;have ix:∀{γ:Type} {f:UInt8->M γ} {h:aj} {Q:γ->aj->Prop},Wp (f b) h Q->Wp (sh (kE t (i:Int)) f) h Q:=λq=>by
    rw[ag,fM]
    grind
   have hq:=G7 (t.data.toList.take i);rw[akq] at hq;have tk:(t.data.toList.take (i+1)).flatMap tn=(t.data.toList.take i).flatMap tn++tn b:=by
    rw[ani,hb2];simp
   have fin:∀h,DK h0 h bb (34::(t.data.toList.take i).flatMap tn++tn b) L->Wp (kV n t (ak bb) (t.size:Int) (IntKind.i64.wrap ((i:Int)+1))) h λ_ h'=>DK h0 h' bb (34::t.data.toList.flatMap tn) L:=λh B=>by
    rw[tH (by omega) (by omega)];refine ih (i+1) h (by omega) (by omega) ?_;rw[tk];exact B
   have one:∀(l:List UInt8) h,DK h0 h bb l L->l.length<=200000->∀{γ:Type} {f:ο->M γ} {Q:γ->aj->Prop} (c:UInt8) (x:Int),x=(c.toNat:Int)->(∀v h',DK h0 h' bb (l++[c]) L->Wp (f v) h' Q)->Wp (sh (aD n (some (ak bb)) x) f) h Q:=λl h B hl γ f Q c x hx q=>by
    rw[ag];exact (vP hx B (by unfold cP;omega)).mono λv h' B=>q v h' B
   have hl0:(34::(t.data.toList.take i).flatMap tn).length<=180000:=by simp only[abv];omega
   refine ix ?_;by_cases c1:b=34
   .rw[By (by rw[c1];rfl)];refine one _ h B (by omega) 92 92 rfl λ_ h1 B=>ix ?_;refine one _ h1 B (by grind) b _ rfl λ_ h2 B=>fin h2 ?_;have:tn b=[92,b]:=by unfold tn;rw[By (.inl c1)]
    grind
   .have c1':¬(decide ((b.toNat:Int)=34))=true:=(by simpa using λe=>c1 ((u8c (c:=34) (by omega)).1 e));rw[AT c1'];refine ix ?_;by_cases c2:b=92
    .rw[By (by rw[c2];rfl)];refine one _ h B (by omega) 92 92 rfl λ_ h1 B=>ix ?_;refine one _ h1 B (by grind) b _ rfl λ_ h2 B=>fin h2 ?_;have:tn b=[92,b]:=by unfold tn;rw[By (.inr c2)]
     grind
    .have c2':¬(decide ((b.toNat:Int)=92))=true:=(by simpa using λe=>c2 ((u8c (c:=92) (by omega)).1 e));rw[AT c2'];refine ix ?_;refine one _ h B (by omega) b _ rfl λ_ h2 B=>fin h2 ?_;have:tn b=[b]:=(by unfold tn;rw[AT (by simp[c1,c2])]);rw[this];exact B
  .rw[AT (by simpa using hi)];rw[ajC (by omega)] at B;exact af.2 B
theorem WJ {t:ζ}{n:Nat}(hs:t.size<=65536)(hn:t.size<n)(hw:WF h):Wp (vG n t) h λr h'=>r.data.toList=FF t.data.toList/\Fr (λ_=>False) h h':=by
 unfold vG;refine Tz (Z.start hw) λbb h1 B=>?_;rw[ag];refine (vP (b:=34) rfl B (by unfold cP;simp)).mono λ_ h2 B=>?_;rw[ag];refine (WI hs n 0 h2 (by omega) (by omega) (by simpa using B)).mono λ_ h3 B=>?_;have hq:=G7 t.data.toList;have hlen:t.data.toList.length=t.size:=rfl;rw[ag];refine (vP (b:=34) rfl B (by unfold cP;simp only[abv];omega)).mono λ_ h4 B=>?_;rw[ag];refine (Kt B (by grind)).mono λr h5 hr=>af.2 ?_;obtain⟨rfl,z⟩:=hr;exact⟨by unfold ofBytes FF;simp,z.fr⟩
end
section
variable {α β:Type}{h h' h0:aj}{L:List bJ}{Q:β->aj->Prop}
def Ao:List UInt8:=[48,49,50,51,52,53,54,55,56,57,97,98,99,100,101,102]
def xc (b:UInt8):List UInt8:=[Ao.getD (b.toNat/16) 0,Ao.getD (b.toNat%16) 0]
noncomputable def om (x:al):List UInt8:=
 if x.kind=0 then [110,117,108,108] else if x.kind=5 then FF x.text.data.toList else if x.kind=6 then 35::x.text.data.toList.flatMap xc else if x.kind=7 then 64::x.text.data.toList else if x.kind=8 then 37::x.text.data.toList else x.text.data.toList
def Mw:∀t:List UInt8,(t.flatMap xc).length=2*t.length
 |[]=>rfl
 |b::t=>by rw[adr,abO,abv,Mw t];show 2+_=_;omega
theorem Ku (x:al):(om x).length<=2*x.text.size+4:=by
 have h1:x.text.data.toList.length=x.text.size:=rfl;have h2:=G7 x.text.data.toList;have h3:=Mw x.text.data.toList
 grind [om,FF,List.length_append,List.length_cons,List.length_nil]
def alJ:∀k:Nat,k<256->IntKind.u8.wrap (((BitVec.ofInt 8 (k:Int)&&&BitVec.ofInt 8 15).toNat:Nat):Int)=((k%16:Nat):Int):=by decide +kernel
def aaG {k:Nat}(hk:k<16):(ofBytes Ao)[k]?=some (Ao.getD k 0):=by
 rw[zu];show Ao[k]?=_;rw[agl];have:k<Ao.length:=hk;rw[abt this];rfl
def Z.alK (z:Z h0 h L){cs:δ}{e:μ}{f:Nat->M β}(q:∀b h',Z h0 h' (.sl ⟨some ⟨b,0,none⟩,cs.length,cs.length+1⟩ 1 e cs (b+1)::L)->Wp (f b) h' Q)(hs:cs.all fC=true:=by rfl):Wp (sh (iB none e cs) f) h Q:=by
 rw[ag,CL];refine⟨hs,q _ _ (z.add (Fr.new z.wf) (o:=.sl ⟨some ⟨h.next,0,none⟩,cs.length,cs.length+1⟩ 1 e cs (h.next+1)) ?_ (.inr (agS _)))⟩
 refine⟨by simp,.inr ⟨by omega,by simp[aj.new,aj.dh],.inr rfl,h.next,0,rfl,lM,by rw[aj.new,xG];simp⟩⟩
theorem aec {x:al}{a:Addr}{ks is:Sl}(nd:F7 h0 a x ks is)(hs:x.text.size<=65536):∀(n i:Nat) (h:aj) (s:Sl) (g:Nat),x.text.size-i<n->i<=x.text.size->Z h0 h (.sl s 1 gT ((35::(x.text.data.toList.take i).flatMap xc).map vb) g::L) ->
  Wp (qB n (some a) s (x.text.size:Int) (i:Int)) h λr h'=>∃g,Z h0 h' (.sl r 1 gT ((35::x.text.data.toList.flatMap xc).map vb) g::L):=by
 intro n
 induction n with
 |zero=>intro i h s g h1;omega
 |succ n ih=>
  intro i h s g h1 h2 z;rw[Dk];unfold vc;have hlen:x.text.data.toList.length=x.text.size:=rfl;by_cases hi:i<x.text.size
  .rw[By (by simpa using hi)];obtain⟨b,hb1,hb2⟩:=byte_at hi;have ix:∀{γ:Type} {f:UInt8->M γ} {h:aj} {Q:γ->aj->Prop},Wp (f b) h Q->Wp (sh (kE x.text (i:Int)) f) h Q:=λq=>by
    rw[ag,fM]
    grind
   have hb:b.toNat<256:=b.toNat_lt;refine aR (aR ((nd.fr z.fr).Jd (ix ?_)));rw[ag,Qr];refine⟨by decide,?_⟩;rw[ag,fM];have e1:((b.toNat:Int).fdiv (2^4))=((b.toNat/16:Nat):Int):=by
    rw[anN _ (by decide)];rfl
   refine⟨Ao.getD (b.toNat/16) 0,by rw[e1];omega,by rw[e1,OF];exact aaG (by omega),?_⟩;refine (nd.fr z.fr).Jd (ix ?_);rw[ag,fM,alJ _ hb];refine⟨Ao.getD (b.toNat%16) 0,by omega,by rw[OF];exact aaG (by omega),?_⟩;have hq:=Mw (x.text.data.toList.take i);rw[akq] at hq;have hsl:s.len=1+2*i:=by
    have o:uU h s 1 gT ((35::(x.text.data.toList.take i).flatMap xc).map vb) g:=z.get 0 rfl;have:=o.1
    grind
   refine Z.Rv z 0 rfl (by decide) rfl (by rw[hsl];unfold cP;omega) λs' h2' g' hs' z2 _=>?_;rw[tH (by omega) (by omega)];refine ih (i+1) h2' s' g' (by omega) (by omega) ?_
   grind [xc,List.take_add_one]
  .rw[AT (by simpa using hi)];rw[ajC (by omega)] at z;exact af.2 ⟨g,z⟩
def TA {x:al}{a:Addr}{ks is:Sl}{n:Nat}(hw:WF h)(nd:F7 h a x ks is)(hs:x.text.size<=65536)(hn:x.text.size<n):Wp (wH n (some a)) h λr h'=>r.data.toList=om x/\Fr (λ_=>False) h h':=by
 unfold wH om;refine aR (nd.Ov ?_);by_cases k0:x.kind=0
 .rw[By (by simpa using k0),By k0];exact af.2 ⟨rfl,Fr.refl hw⟩
 rw[AT (by simpa using k0),AT k0];by_cases k5:x.kind=5
 .rw[By (by simpa using k5),By k5];refine aR (nd.Jd ?_);rw[ag];exact (WJ hs hn hw).mono λr h1 hr=>af.2 hr
 rw[AT (by simpa using k5),AT k5];by_cases k6:x.kind=6
 .rw[By (by simpa using k6),By k6];refine Z.alK (cs:=[vb 35]) (Z.start hw) λb h1 z1=>?_;refine aR ((nd.fr z1.fr).Jd ?_);rw[ag];refine (aec nd hs n 0 h1 _ _ (by omega) (by omega) z1).mono λr h2 hr=>?_;obtain⟨g,z2⟩:=hr;have o:uU h2 r 1 gT ((35::x.text.data.toList.flatMap xc).map vb) g:=z2.get 0 rfl;have hr:=o.read;rw[aes] at hr;refine IQ (x:=ofBytes (35::x.text.data.toList.flatMap xc)) (h1:=h2) (by unfold strOf;rw[hr];simp only[DB]) (af.2 ⟨by unfold ofBytes;simp,z2.fr⟩)
 rw[AT (by simpa using k6),AT k6];have cat:∀(c:UInt8),Wp (sh (kK (ofBytes [c]) x.text) λx4=>AI x4) h λr h'=>r.data.toList=c::x.text.data.toList/\Fr (λ_=>False) h h':=λc=>by
  have e:(ofBytes [c]).size=1:=rfl;refine IQ (x:=ofBytes [c]++x.text) (h1:=h) (by unfold kK;rw[By (by rw[e];unfold cP;omega)]) (af.2 ⟨?_,Fr.refl hw⟩);rw[alk,ak9];rfl
 by_cases k7:x.kind=7
 .rw[By (by simpa using k7),By k7];exact aR (nd.Jd (cat 64))
 rw[AT (by simpa using k7),AT k7];by_cases k8:x.kind=8
 .rw[By (by simpa using k8),By k8];exact aR (nd.Jd (cat 37))
 rw[AT (by simpa using k8),AT k8];exact aR (nd.Jd (af.2 ⟨rfl,Fr.refl hw⟩))
end
section
variable {N:List al}{root:Int}{B:Nat}
def br (x:al):UInt8×UInt8:=if x.kind=10 then (if x.ord then (60,62) else (123,125)) else (91,93)
def tq (F:Int->List UInt8)(x:al):Bool->ε->List UInt8
 |_,[]=>[]
 |b,k::r=>(if b then [] else [44])++(if x.kind=10 then F (nth x.keys k)++[61] else [])++F (nth x.items k)++tq F x false r
noncomputable def DC (F:Int->List UInt8)(x:al)(o:ε):List UInt8:=
 if x.kind=11 then 33::x.text.data.toList++[40]++F (nth x.items 0)++[41] else if x.kind<9 then om x else [(br x).1]++tq F x true o++[(br x).2]
noncomputable def eZ (N:List al):Nat->Int->List UInt8
 |0,_=>[]
 |f+1,i=>match gt N i with
  |some x=>DC (eZ N f) x (cn N i)
  |none=>[]
def vk (F:Int->Nat)(x:al):ε->Nat
 |[]=>0
 |k::r=>(if x.kind=10 then 1+F (nth x.keys k) else 0)+F (nth x.items k)+vk F x r
noncomputable def vq (x:al):Nat:=if x.kind=9\/x.kind=10 then 2+(x.items.length-1) else if x.kind=11 then 3+x.text.size else (om x).length
noncomputable def yD (N:List al):Nat->Int->Nat
 |0,_=>0
 |f+1,i=>match gt N i with
  |some x=>vq x+vk (yD N f) x (iota x.items.length)
  |none=>0
def Kv {F:Int->Nat}{x:al}{l l':ε}(h:l.Perm l'):vk F x l=vk F x l':=by
 induction h with
 |nil=>rfl
 |cons a _ ih=>simp only[vk,ih]
 |swap a b l=>simp only[vk];omega
 |trans _ _ h1 h2=>rw[h1,h2]
theorem wU {F G:Int->Nat}{x:al}:∀{l:ε},(∀a∈l,(x.kind=10->F (nth x.keys a)=G (nth x.keys a))/\F (nth x.items a)=G (nth x.items a))->vk F x l=vk G x l
 |[],_=>rfl
 |a::l,h=>by
  have ih:=wU (l:=l) λb hb=>h b (BY _ hb);obtain⟨h1,h2⟩:=h a IS;unfold vk
  grind
theorem Pb {F:Int->List UInt8}{x:al}:∀(b:Bool) (l:ε),(tq F x b l).length=vk (λi=>(F i).length) x l+(l.length-(if b then 1 else 0))
 |b,[]=>by cases b<;>rfl
 |b,a::l=>by
  unfold tq vk;simp only[abO,abv];rw[Pb false l]
  grind
theorem qd {x:al}(h:jr x=some true):0<=x.kind/\x.kind<=11/\(x.kind<9->x.items=[])/\(x.kind=11->x.items.length=1):=by
 unfold jr at h;by_cases h9:x.kind=9
 .grind
 rw[AT h9] at h;by_cases h10:x.kind=10
 .grind
 rw[AT h10] at h;by_cases h11:x.kind=11
 .grind
 rw[AT h11] at h;by_cases hc:x.ord=false/\x.keys.length=0/\x.items.length=0
 .rw[By hc] at h;have hi:=List.length_eq_zero_iff.1 hc.2.2;refine⟨?_,?_,λ_=>hi,λe=>absurd e h11⟩
  .by_cases hn:0<=x.kind
   .exact hn
   .exfalso;unfold xw at h
    repeat (rw[AT (by omega)] at h)
    cases h
  .by_cases hn:x.kind<=11
   .exact hn
   .exfalso;unfold xw at h
    repeat (rw[AT (by omega)] at h)
    cases h
 .rw[AT hc] at h;cases h
theorem Pc (d:Vd N root):∀(f:Nat) (i:Int),IR N.length i->(eZ N f i).length=yD N f i:=by
 intro f
 induction f with
 |zero=>intro i _;rfl
 |succ f ih=>
  intro i hi;obtain⟨x,hx⟩:=cI (l:=N) rfl hi;unfold eZ yD;rw[hx];simp only;obtain⟨k0,k11,kl,kt⟩:=qd (d.fm x (aq hx));have hI:=d.ix x (aq hx);unfold DC vq;by_cases h11:x.kind=11
  .rw[By h11,AT (by omega),By h11];have e1:=kt h11;rw[e1];have e2:iota 1=[0]:=rfl;rw[e2];unfold vk vk;rw[AT (by omega)];have e3:=ih (nth x.items 0) (hI.2 _ (bW (by omega) (by omega)));have e4:x.text.data.toList.length=x.text.size:=rfl
   grind
  rw[AT h11];by_cases h9:x.kind<9
  .rw[By h9,AT (by omega),AT h11,kl h9];rfl
  rw[AT h9,By (by omega)];simp only[abO,abv,ad8];rw[Pb true,kB hx];have e:vk (λi=>(eZ N f i).length) x (cn N i)=vk (yD N f) x (iota x.items.length):=by
   have ho:cn N i=j5 (kG N) x:=by unfold cn;rw[hx]
   rw[<-Kv (uk (kG N) x),ho];refine wU λa ha=>?_;have:=eQ ha;exact⟨λhk=>ih _ (hI.1 _ (bW this.1 (by rw[d.map (aq hx) hk];exact this.2))),ih _ (hI.2 _ (bW this.1 this.2))⟩
  rw[e];simp only[aks];omega
def FG (d:Vd N root){H:Int->Nat}(hH:∀u v,Edge N u v->H v<H u):∀(t:Nat) (f g:Nat) (i:Int),t<f->t<g->IR N.length i->H i<=t->yD N f i=yD N g i:=by
 intro t
 induction t with
 |zero=>
  intro f g i hf hg hi ht;obtain⟨f,rfl⟩:∃f',f=f'+1:=⟨f-1,by omega⟩;obtain⟨g,rfl⟩:∃f',g=f'+1:=⟨g-1,by omega⟩;obtain⟨x,hx⟩:=cI (l:=N) rfl hi;unfold yD;rw[hx];simp only;rw[wU λa ha=>?_];exfalso;have h1:=(iA x.items.length).2 a ha;have:=hH i (nth x.items a) ⟨x,hx,.inr (bW h1.1 h1.2)⟩;omega
 |succ t ih=>
  intro f g i hf hg hi ht;obtain⟨f,rfl⟩:∃f',f=f'+1:=⟨f-1,by omega⟩;obtain⟨g,rfl⟩:∃f',g=f'+1:=⟨g-1,by omega⟩;obtain⟨x,hx⟩:=cI (l:=N) rfl hi;have hI:=d.ix x (aq hx);unfold yD;rw[hx];simp only;rw[wU λa ha=>?_];have h1:=(iA x.items.length).2 a ha;refine⟨λhk=>?_,?_⟩
  .have hm:=bW (l:=x.keys) h1.1 (by rw[d.map (aq hx) hk];exact h1.2);have:=hH i _ ⟨x,hx,.inl hm⟩;exact ih f g _ (by omega) (by omega) (hI.1 _ hm) (by omega)
  .have hm:=bW (l:=x.items) h1.1 h1.2;have:=hH i _ ⟨x,hx,.inr hm⟩;exact ih f g _ (by omega) (by omega) (hI.2 _ hm) (by omega)
end
section
variable {α β:Type}{h h' h0:aj}{L R:List bJ}{N:List al}{root:Int}{B:Nat}{Q:β->aj->Prop}
def vm (n:Nat):Int:=((min n 65537:Nat):Int)
def KOK (lv:Int->Nat)(m:Nat)(K:ε):Prop:=K.length=m/\∀i v,gt K i=some v->v=-1\/v=vm (lv i)
abbrev clL (n:Nat):aQ:=aQ.at n
def fuL (f:Nat):Nat:=1000+f*100
def alM (h0:aj)(tb kb m:Nat)(tc:δ)(N:List al)(lv:Int->Nat)(H:Int->Nat)(f:Nat):Prop:=∀(n:Nat) (h:aj) (k:Int) (K:ε) (L:List bJ),fuL f<=n->IR N.length k->H k<f->KOK lv m K->bJ.au tb tc dA∈L->Z h0 h (.au kb (K.map vi) av::L) ->
 Wp ((clL n).fh (some (ak tb)) k (arr kb m)) h λr h'=>r=vm (lv k)/\∃K',KOK lv m K'/\Z h0 h' (.au kb (K'.map vi) av::L)
def Xd (c:Int)(s:Nat):Prop:=0<=c/\min c 65537=((min s 65537:Nat):Int)
theorem Xd.add {c:Int}{s v:Nat}(h:Xd c s):Xd (c+vm v) (s+v):=by
 unfold Xd vm at *
 omega
def Xd.one {c:Int}{s:Nat}(h:Xd c s):Xd (c+1) (s+1):=by
 unfold Xd at *
 omega
def Mx (v:Nat):0<=vm v/\vm v<=65537:=by unfold vm;omega
theorem aj1 {tb kb m:Nat}{tc:δ}{lv:Int->Nat}{H:Int->Nat}{f:Nat}(V:alM h0 tb kb m tc N lv H f){x:al}{a:Addr}{ks is:Sl}(nd:F7 h0 a x ks is)(hb:x.items.length<=80)(hk:x.kind=10->x.keys.length=x.items.length)(hI:(∀v∈x.keys,IR N.length v)/\∀v∈x.items,IR N.length v)
  (hH:(∀v∈x.keys,H v<f)/\∀v∈x.items,H v<f) (k0:Int):∀(n i:Nat) (h:aj) (K:ε) (L:List bJ) (c:Int) (s:Nat),fuL f+(x.items.length-i)+1<=n->i<=x.items.length->Xd c s->c<=1000000+(i:Int)*200000->KOK lv m K->bJ.au tb tc dA∈L->Z h0 h (.au kb (K.map vi) av::L) ->
  Wp ((clL n).eH (some (ak tb)) k0 (arr kb m) (some a) c is (x.items.length:Int) (i:Int)) h λr h'=>Xd r (s+vk lv x ((iota x.items.length).drop i))/\∃K',KOK lv m K'/\Z h0 h' (.au kb (K'.map vi) av::L):=by
 intro n
 induction n with
 |zero=>intro i h K L c s h1;omega
 |succ n ih=>
  intro i h K L c s h1 h2 hc hcb ok ht z;show Wp (mG (clL n) n (some (ak tb)) k0 (arr kb m) (some a) c is (x.items.length:Int) (i:Int)) h _;unfold mG;by_cases hi:i<x.items.length
  .rw[By (by simpa using hi)];obtain⟨iu,hiu⟩:=jD (l:=x.items) (v:=(i:Int)) (by omega) (by omega);have ndz:=nd.fr z.fr;have hd:(iota x.items.length).drop i=(i:Int)::(iota x.items.length).drop (i+1):=drop_cons (mO hi);have ei:nth x.items (i:Int)=iu:=by unfold nth;rw[hiu];rfl
   rw[hd];refine ndz.items.ix (by omega) (aB hiu).2 λ_ _ c1=>c1.tC (l:=li) rfl rfl ?_;refine aR (ndz.Ov ?_);by_cases h10:x.kind=10
   .rw[By (by simpa using h10)];obtain⟨ku,hku⟩:=jD (l:=x.keys) (v:=(i:Int)) (by omega) (by rw[hk h10];omega);have ek:nth x.keys (i:Int)=ku:=(by unfold nth;rw[hku];rfl);refine aR (ndz.Js (ndz.keys.ix (by omega) (aB hku).2 λ_ _ c1=>c1.tC (l:=li) rfl rfl ?_));rw[ag];refine (V n h ku K L (by omega) (hI.1 _ (aq hku)) (hH.1 _ (aq hku)) ok ht z).mono λr h3 hr=>?_;obtain⟨rfl,K1,ok1,z1⟩:=hr;rw[ag];refine (V n h3 iu K1 L (by omega) (hI.2 _ (aq hiu)) (hH.2 _ (aq hiu)) ok1 ht z1).mono λr h4 hr=>?_;obtain⟨rfl,K2,ok2,z2⟩:=hr;have b1:=Mx (lv ku);have b2:=Mx (lv iu);have hc0:=hc.1;rw[tH (x:=1+vm (lv ku)) (by omega) (by omega),tH (x:=c+(1+vm (lv ku))) (by omega) (by omega),tH (x:=c+(1+vm (lv ku))+vm (lv iu)) (by omega) (by omega),wX (B:=80) (by omega) (by omega)];have hc':Xd (c+(1+vm (lv ku))+vm (lv iu)) (s+(1+lv ku)+lv iu):=by
     have:=((hc.one).add (v:=lv ku)).add (v:=lv iu)
     grind
    refine (ih (i+1) h4 K2 L _ _ (by omega) (by omega) hc' (by push_cast;omega) ok2 ht z2).mono λr h5 hr=>⟨?_,hr.2⟩;unfold vk
    grind
   .rw[AT (by simpa using h10)];rw[ag];refine (V n h iu K L (by omega) (hI.2 _ (aq hiu)) (hH.2 _ (aq hiu)) ok ht z).mono λr h4 hr=>?_;obtain⟨rfl,K2,ok2,z2⟩:=hr;have b2:=Mx (lv iu);have hc0:=hc.1;rw[tH (x:=c+vm (lv iu)) (by omega) (by omega),wX (B:=80) (by omega) (by omega)];refine (ih (i+1) h4 K2 L _ _ (by omega) (by omega) (hc.add (v:=lv iu)) (by push_cast;omega) ok2 ht z2).mono λr h5 hr=>⟨?_,hr.2⟩;unfold vk
    grind
  .rw[AT (by simpa using hi)];rw[abG (by rw[lG];omega)];exact af.2 ⟨hc,K,ok,z⟩
def KOK.set {lv:Int->Nat}{m:Nat}{K:ε}(ok:KOK lv m K){k:Int}(hk:IR m k):KOK lv m (K.set k.toNat (vm (lv k))):=by
 refine⟨by rw[ajZ];exact ok.1,λi v hv=>?_⟩;rw[fY (by rw[ok.1];exact hk)] at hv;split at hv
 .rename_i e;subst e;exact .inr (abL hv).symm
 .exact ok.2 i v hv
noncomputable def FH (N:List al)(H:Int->Nat)(i:Int):Nat:=yD N (H i+1) i
def aee (d:Vd N root){H:Int->Nat}(hH:∀u v,Edge N u v->H v<H u){i:Int}{x:al}(hx:gt N i=some x):FH N H i=vq x+vk (FH N H) x (iota x.items.length):=by
 have hi:IR N.length i:=mX hx;have hI:=d.ix x (aq hx);show yD N (H i+1) i=_;unfold yD;rw[hx];simp only;rw[wU λa ha=>?_];have h1:=(iA x.items.length).2 a ha;refine⟨λhk=>?_,?_⟩
 .have hm:=bW (l:=x.keys) h1.1 (by rw[d.map (aq hx) hk];exact h1.2);have:=hH i _ ⟨x,hx,.inl hm⟩;exact FG d hH (H (nth x.keys a)) _ _ _ this (by omega) (hI.1 _ hm) (aa2 _)
 .have hm:=bW (l:=x.items) h1.1 h1.2;have:=hH i _ ⟨x,hx,.inr hm⟩;exact FG d hH (H (nth x.items a)) _ _ _ this (by omega) (hI.2 _ hm) (aa2 _)
theorem aj2 (d:Vd N root)(fw:de N){H:Int->Nat}(hH:∀u v,Edge N u v->H v<H u){tb kb:Nat}{s:Sl}{v1 v2:ο}(G:kP h0 s N):∀f,alM h0 tb kb N.length [aC s,v1,v2] N (FH N H) H f:=by
 intro f
 induction f with
 |zero=>intro n h k K L _ _ hk;omega
 |succ f V=>
  intro n h k K L hn hkr hkf ok ht z;obtain⟨n,rfl⟩:∃n',n=n'+1:=⟨n-1,by unfold fuL at hn;omega⟩;show Wp (pz (clL n) n (some (ak tb)) k (arr kb N.length)) h _;unfold pz;obtain⟨v,hv⟩:=cI ok.1 hkr;obtain⟨x,hx⟩:=cI (l:=N) rfl hkr;refine z.JK 0 hv ok.1 ?_;by_cases h0':0<=v
  .rw[By (by simpa using h0')];have e:v=vm (FH N H k):=(ok.2 k v hv).resolve_left (by omega);refine z.JK 0 hv ok.1 (af.2 ⟨e,K,ok,z⟩)
  rw[AT (by simpa using h0')];refine aR ?_;refine z.G4 (o:=0) (l:=.sl) (x:=s) (BY _ ht) rfl rfl ?_;refine G.Ss z (aB hx).1 (aB hx).2 λa ks is nd=>?_;have hI:=d.ix x (aq hx);have hbx:=(fw.map x (aq hx)).1;have htx:=fw.txt x (aq hx);have hlf:=Ku x;have hil:is.len=x.items.length:=nd.items.len;have J1:∀(c:Int) (h:aj),Z h0 h (.au kb (K.map vi) av::L)->c=((vq x:Nat):Int)->Wp (dP (clL n) n (some (ak tb)) k (arr kb N.length) (some a) c) h λr h'=>r=vm (FH N H k)/\∃K',KOK (FH N H) N.length K'/\Z h0 h' (.au kb (K'.map vi) av::L):=by
   intro c h z hc;subst hc;unfold dP;refine aR ((nd.fr z.fr).Ed ?_);rw[hil,ag];have hbl:vq x<=400:=by unfold vq;split<;>(try split)<;>omega
   refine (aj1 V nd hbx (d.map (aq hx)) hI ⟨λv hv=>by have:=hH k v ⟨x,hx,.inl hv⟩;omega,λv hv=>by have:=hH k v ⟨x,hx,.inr hv⟩;omega⟩ k n 0 h K L _ (vq x) (by unfold fuL at hn⊢;omega) (by omega) ⟨by omega,by omega⟩ (by omega) ok ht z).mono λr h1 hr=>?_;obtain⟨hcap,K',ok',z1⟩:=hr;rw[ajb,<-aee d hH hx] at hcap;have e:(if decide ((65537:Int)<r)=true then (65537:Int) else r)=vm (FH N H k):=by
    unfold Xd at hcap;unfold vm
    grind
   have e':(if (65537:Int)<r then (65537:Int) else r)=vm (FH N H k):=by rw[<-e];simp
   refine Jr (b:=kb) (n:=N.length) hkr.1 hkr.2 ?_;rw[aes]
   first
    |rw[e]
    |rw[e']
   refine z1.CH 0 (xs:=K') (enc:=vi) (v:=vm (FH N H k)) (by rw[ok'.1];have:=hkr.1;have:=hkr.2;omega) λh2 z2=>?_;have ok2:=ok'.set hkr;have hg:gt (K'.set k.toNat (vm (FH N H k))) k=some (vm (FH N H k)):=by rw[fY (by rw[ok'.1];exact hkr),By rfl]
   refine Z.JK z2 0 hg ok2.1 (af.2 ⟨rfl,_,ok2,z2⟩)
  have big:(2:Int)+(if (0:Int)<IntKind.i64.wrap ((x.items.length:Int)-1) then IntKind.i64.wrap ((x.items.length:Int)-1) else 0)=((2+(x.items.length-1):Nat):Int):=by
   rw[tH (by omega) (by omega)];split<;>omega
  refine aR ((nd.fr z.fr).Ov ?_);by_cases k9:x.kind=9
  .rw[By (by simpa using k9)];refine aR ((nd.fr z.fr).Ed ?_);rw[hil,big,tH (by omega) (by omega)];exact J1 _ h z (by unfold vq;rw[By (.inl k9)])
  rw[AT (by simpa using k9)];by_cases k10:x.kind=10
  .rw[By (by simpa using k10)];refine aR ((nd.fr z.fr).Ed ?_);rw[hil,big,tH (by omega) (by omega)];exact J1 _ h z (by unfold vq;rw[By (.inr k10)])
  rw[AT (by simpa using k10)];unfold mH;by_cases k11:x.kind=11
  .rw[By (by simpa using k11)];refine aR ((nd.fr z.fr).Jd ?_);rw[tH (by omega) (by omega)];exact J1 _ h z (by unfold vq;rw[AT (by omega),By k11];push_cast;rfl)
  .rw[AT (by simpa using k11)];refine z.call (P:=λr _=>r.data.toList=om x) (TA z.wf (nd.fr z.fr) (by omega) (by unfold fuL at hn;omega)) λr h1 hr f1 z1=>?_;refine J1 _ h1 z1 ?_;unfold vq;rw[AT (by omega),AT k11,<-hr];rfl
end
section
variable {α β:Type}{h h' h0:aj}{L R:List bJ}{N:List al}{root:Int}{B:Nat}{Q:β->aj->Prop}
abbrev clW (n:Nat):aN:=aN.at n
def fuW (f:Nat):Nat:=fuE 80+70000+f*100
def aaH (f:Nat):fuW (f+1)=fuW f+100:=by unfold fuW;rw[af3,am1];rfl
def alN {f n:Nat}(h:fuW f<=n):fuE 80<=n:=abK (abK (alf _ 70000) (alf _ _)) h
def agm {f n:Nat}(h:fuW f<=n):70000<=n:=abK (abK (Nat.le_add_left 70000 _) (alf _ _)) h
def alO (h0:aj)(t:TbC)(bb:Nat)(N:List al)(H:Int->Nat)(f:Nat):Prop:=∀(n:Nat) (h:aj) (k:Int) (l:List UInt8) (R L:List bJ),fuW f<=n->IR N.length k->H k<f->l.length+(eZ N f k).length<=1000000->qo t N L->DK h0 h bb l (R++L) ->
 Wp ((clW n).fQ (some (ak t.tb)) (some (ak bb)) k) h λ_ h'=>∃L',qo t N L'/\Ext L L'/\DK h0 h' bb (l++eZ N f k) (R++L')
def DK.z {bb:Nat}{l:List UInt8}(b:DK h0 h bb l L):Z h0 h L:=by
 obtain⟨p,s,g,_,_,z⟩:=b;exact z.drop.drop
def DK.on {bb:Nat}{l:List UInt8}{X:List bJ}(b:DK h0 h bb l X){γ:Type}{M:M γ}{Q:γ->aj->Prop}(q:∀F,Z h0 h (F++X)->(∀h' X',Z h0 h' (F++X')->DK h0 h' bb l X')->Wp M h Q):Wp M h Q:=by
 obtain⟨p,s,g,h1,h2,z⟩:=b;exact q (BS bb p s l g) z λh' X' z'=>⟨p,s,g,h1,h2,z'⟩
def Ez {n bb:Nat}{l:List UInt8}(c:UInt8){x:Int}(hx:x=(c.toNat:Int)){X:List bJ}(b:DK h0 h bb l X)(hl:l.length<=1000000){f:ο->M β}(q:∀v h',DK h0 h' bb (l++[c]) X->Wp (f v) h' Q):Wp (sh (aD n (some (ak bb)) x) f) h Q:=by
 rw[ag];exact (vP hx b (by unfold cP;omega)).mono λv h' b=>q v h' b
theorem aj3 {t:TbC}{bb be:Nat}{H:Int->Nat}{f:Nat}(V:alO h0 t bb N H f){x:al}{a:Addr}{ks is:Sl}(nd:F7 h0 a x ks is){o:ε}(ho:∀u∈o,0<=u/\u<x.items.length/\(x.kind=10->u<x.keys.length))(hol:o.length<=80)(hI:(∀v∈x.keys,IR N.length v)/\∀v∈x.items,IR N.length v)
  (hH:(∀v∈x.keys,H v<f)/\∀v∈x.items,H v<f) (ends:ζ):∀(n i:Nat) (h:aj) (l:List UInt8) (R L:List bJ),fuW f+(o.length-i)+1<=n->i<=o.length->l.length+(tq (eZ N f) x (decide (i=0)) (o.drop i)).length<=999999->bJ.au be (o.map vi) av∈L->qo t N L->DK h0 h bb l (R++L) ->
  Wp ((clW n).fk (some (ak t.tb)) (some (ak bb)) (some a) ends (arr be o.length) (o.length:Int) (i:Int)) h λ_ h'=>∃L',qo t N L'/\Ext L L'/\DK h0 h' bb (l++tq (eZ N f) x (decide (i=0)) (o.drop i)) (R++L'):=by
 intro n
 induction n with
 |zero=>intro i h l R L h1;omega
 |succ n ih=>
  intro i h l R L h1 h2 hl hbe T b;show Wp (nK (clW n) n (some (ak t.tb)) (some (ak bb)) (some a) ends (arr be o.length) (o.length:Int) (i:Int)) h _;unfold nK;by_cases hi:i<o.length
  .rw[By (by simpa using hi)];obtain⟨u,hu⟩:=jD (l:=o) (v:=(i:Int)) (by omega) (by omega);obtain⟨u1,u2,u3⟩:=ho u (aq hu);obtain⟨iu,hiu⟩:=jD (l:=x.items) u1 u2;have ei:nth x.items u=iu:=by unfold nth;rw[hiu];rfl
   rw[BJ hu] at hl⊢;refine b.z.rdM (abI _ hbe) hu rfl ?_;have hne:decide (i+1=0)=false:=by simp
   have J1:∀(h:aj) (l2:List UInt8) (L:List bJ),l2.length+(eZ N f iu).length+(tq (eZ N f) x false (o.drop (i+1))).length<=999999->bJ.au be (o.map vi) av∈L->qo t N L->DK h0 h bb l2 (R++L) ->
     Wp (fJ (clW n) n (some (ak t.tb)) (some (ak bb)) (some a) ends u (arr be o.length) (o.length:Int) (i:Int)) h λ_ h'=>∃L',qo t N L'/\Ext L L'/\DK h0 h' bb (l2++(eZ N f iu++tq (eZ N f) x false (o.drop (i+1)))) (R++L'):=by
    intro h l2 L hl2 hbe T b;unfold fJ;refine aR ?_;have ndz:=nd.fr b.z.fr;refine ndz.Ed (ndz.items.ix u1 (aB hiu).2 λ_ _ c1=>c1.tC (l:=li) rfl rfl ?_);rw[ag];refine (V n h iu l2 R L (by omega) (hI.2 _ (aq hiu)) (hH.2 _ (aq hiu)) (by omega) T b).mono λ_ h3 hr=>?_;obtain⟨L1,T1,E1,b1⟩:=hr;rw[wX (B:=80) (by omega) (by omega)];refine (ih (i+1) h3 _ R L1 (by omega) (by omega) (by rw[hne,abO];omega) (E1 _ _ hbe) T1 b1).mono λ_ h4 hr=>?_;obtain⟨L2,T2,E2,b2⟩:=hr;rw[hne,abM] at b2;exact⟨L2,T2,E1.trans E2,b2⟩
   have J0:∀(h:aj) (l2:List UInt8),l2.length+((if x.kind=10 then eZ N f (nth x.keys u)++[61] else [])++eZ N f (nth x.items u)++tq (eZ N f) x false (o.drop (i+1))).length<=999999->DK h0 h bb l2 (R++L) ->
     Wp (fK (clW n) n (some (ak t.tb)) (some (ak bb)) (some a) ends u (arr be o.length) (o.length:Int) (i:Int)) h λ_ h'=>∃L',qo t N L'/\Ext L L'/\DK h0 h' bb (l2++((if x.kind=10 then eZ N f (nth x.keys u)++[61] else [])++eZ N f (nth x.items u)++tq (eZ N f) x false (o.drop (i+1)))) (R++L'):=by
    intro h l2 hl2 b;unfold fK;rw[ei] at hl2⊢;refine aR ((nd.fr b.z.fr).Ov ?_);by_cases hk:x.kind=10
    .rw[By (by simpa using hk)];simp only[By hk] at hl2⊢;obtain⟨ku,hku⟩:=jD (l:=x.keys) u1 (u3 hk);have ek:nth x.keys u=ku:=(by unfold nth;rw[hku];rfl);rw[ek] at hl2⊢;simp only[abO,abv,ad8] at hl2;have ndz:=nd.fr b.z.fr;refine aR (ndz.Js (ndz.keys.ix u1 (aB hku).2 λ_ _ c1=>c1.tC (l:=li) rfl rfl ?_));rw[ag];refine (V n h ku l2 R L (by omega) (hI.1 _ (aq hku)) (hH.1 _ (aq hku)) (by omega) T b).mono λ_ h3 hr=>?_;obtain⟨L1,T1,E1,b1⟩:=hr;refine Ez 61 rfl b1 (by rw[abO];omega) λ_ h4 b2=>?_;refine (J1 h4 _ L1 (by grind) (E1 _ _ hbe) T1 b2).mono λ_ h5 hr=>?_;obtain⟨L2,T2,E2,b3⟩:=hr;refine⟨L2,T2,E1.trans E2,?_⟩
     grind
    .rw[AT (by simpa using hk)];simp only[AT hk,abJ,abO] at hl2⊢;exact J1 h l2 L (by omega) hbe T b
   unfold tq at hl⊢;by_cases h0':i=0
   .subst h0';rw[AT (by simp)];simp only[decide_true,aks,abJ] at hl⊢;exact J0 h l hl b
   .rw[By (by simp;omega)];have e0:decide (i=0)=false:=(by simpa using h0');rw[e0] at hl⊢;simp only[aeb,aed] at hl⊢;simp only[abO,abv,ad8] at hl;refine Ez 44 rfl b (by omega) λ_ h3 b1=>?_;refine (J0 h3 (l++[44]) (by grind) b1).mono λ_ h4 hr=>?_
    grind
  .rw[AT (by simpa using hi)];rw[abG (by omega)];refine af.2 ⟨L,T,.refl,?_⟩
   grind [tq,eZ,decide]
theorem aaI (d:Vd N root)(fw:de N){H:Int->Nat}(hH:∀u v,Edge N u v->H v<H u){t:TbC}{bb:Nat}(G:kP h0 t.s N):∀f,alO h0 t bb N H f:=by
 intro f
 induction f with
 |zero=>intro n h k l R L _ _ hk;omega
 |succ f V=>
  intro n h k l R L hn hkr hkf hl T b;rw[aaH] at hn;obtain⟨n,rfl⟩:∃n',n=n'+1:=⟨n-1,by omega⟩;have hT:=agm (f:=f) (n:=n) (by omega);show Wp (qm (clW n) n (some (ak t.tb)) (some (ak bb)) k) h _;unfold qm;obtain⟨x,hx⟩:=cI (l:=N) rfl hkr;obtain⟨k0,k11,kl,kt⟩:=qd (d.fm x (aq hx));have hI:=d.ix x (aq hx);have hbx:=(fw.map x (aq hx)).1;have htx:=fw.txt x (aq hx);have hHx:(∀v∈x.keys,H v<f)/\∀v∈x.items,H v<f:=⟨λv hv=>by have:=hH k v ⟨x,hx,.inl hv⟩;omega,λv hv=>by have:=hH k v ⟨x,hx,.inr hv⟩;omega⟩;have hkey:eZ N (f+1) k=DC (eZ N f) x (cn N k):=by
   conv=>lhs;unfold eZ
   rw[hx]
  rw[hkey] at hl⊢;obtain⟨C,TC⟩:=id T;refine aR ?_;refine b.z.G4 (o:=0) (l:=.sl) (x:=t.s) (abI _ TC.Mu) rfl rfl ?_;refine G.Ss b.z (aB hx).1 (aB hx).2 λa ks is nd=>?_;have ndz:=nd.fr b.z.fr;refine aR (ndz.Ov ?_);unfold DC at hl⊢;by_cases h11:x.kind=11
  .rw[By (by simpa using h11)];rw[By h11] at hl⊢;have e1:=kt h11;obtain⟨i0,hi0⟩:=jD (l:=x.items) (v:=0) (by omega) (by omega);have ei:nth x.items 0=i0:=by unfold nth;rw[hi0];rfl
   rw[ei] at hl⊢;have hts:x.text.data.toList.length=x.text.size:=rfl;simp only[abO,abv,ad8] at hl;refine aR (ndz.Jd ?_);have s1:(ofBytes [33]).size=1:=rfl;have s2:(ofBytes [40]).size=1:=rfl;refine IQ (x:=ofBytes [33]++x.text) (h1:=h) (by unfold kK;rw[By (by rw[s1];unfold cP;omega)]) ?_;refine IQ (x:=ofBytes [33]++x.text++ofBytes [40]) (h1:=h) (by unfold kK;rw[By (by rw[akw,s1,s2];unfold cP;omega)]) ?_;rw[ag];refine (Bq b (by grind [ByteArray.size_append,cP])).mono λ_ h1 b1=>?_;have e2:(ofBytes [33]++x.text++ofBytes [40]).data.toList=33::x.text.data.toList++[40]:=by
    rw[alk,alk,ak9,ak9];rfl
   rw[e2] at b1;have ndz1:=nd.fr b1.z.fr;refine aR (ndz1.Ed (ndz1.items.ix (by omega) (aB hi0).2 λ_ _ c1=>c1.tC (l:=li) rfl rfl ?_));rw[ag];refine (V n h1 i0 _ R L (by omega) (hI.2 _ (aq hi0)) (hHx.2 _ (aq hi0)) (by grind) T b1).mono λ_ h2 hr=>?_;obtain⟨L1,T1,E1,b2⟩:=hr;refine Ez 41 rfl b2 (by grind) λ_ h3 b3=>af.2 ⟨L1,T1,E1,?_⟩;simp only[abM] at b3⊢;exact b3
  rw[AT (by simpa using h11)];rw[AT h11] at hl⊢;refine aR (ndz.Ov ?_);by_cases h9:x.kind<9
  .rw[By (by simpa using h9)];rw[By h9] at hl⊢;refine b.on λF z back=>?_;refine z.call (P:=λr _=>r.data.toList=om x) (TA z.wf (nd.fr z.fr) (by omega) (by omega)) λr h1 hr f1 z1=>?_;have b1:=back h1 _ z1;rw[ag];have hrs:r.size=(om x).length:=by rw[<-hr];rfl
   refine (Bq b1 (by rw[hrs];unfold cP;omega)).mono λ_ h2 b2=>af.2 ⟨L,T,.refl,?_⟩;rw[hr] at b2;exact b2
  rw[AT (by simpa using h9)];rw[AT h9] at hl⊢;simp only[abO,abv,ad8] at hl;have hlen:=kB hx;have hord:cn N k=j5 (kG N) x:=by unfold cn;rw[hx]
  have J0:∀(c1 c2:UInt8),br x=(c1,c2)->Wp (fG (clW n) n (some (ak t.tb)) (some (ak bb)) k (some a) (ofBytes [c1,c2])) h λ_ h'=>∃L',qo t N L'/\Ext L L'/\DK h0 h' bb (l++([(br x).1]++tq (eZ N f) x true (cn N k)++[(br x).2])) (R++L'):=by
   intro c1 c2 hbr;rw[hbr];unfold fG;rw[ag,fM];refine⟨c1,by omega,rfl,?_⟩;refine Ez c1 rfl b (by omega) λ_ h1 b1=>?_;refine b1.on λF z back=>?_;have z':Z h0 h1 ((F++R)++L):=by rw[abM];exact z
   rw[ag];refine (IJ G d fw.bd fw.ht (fw.sm d) hx n h1 (F++R) L (alN (f:=f) (by omega)) T z').mono λr h2 hr=>?_;obtain⟨be,L1,rfl,hbe,T1,E1,z2⟩:=hr;have b2:=back h2 (R++L1) (by rw[<-abM];exact z2);rw[ag];show Wp ((clW n).fk (some (ak t.tb)) (some (ak bb)) (some a) (ofBytes [c1,c2]) (arr be x.items.length) (x.items.length:Int) 0) h2 _;rw[<-hlen];refine (aj3 V nd (o:=cn N k) (λu hu=>by rw[hord] at hu;have:=eQ hu;exact⟨this.1,this.2,λe=>by rw[d.map (aq hx) e];exact this.2⟩) (by omega) hI hHx (ofBytes [c1,c2]) n 0 h2 _ R L1 (by omega) (by omega) (by grind) hbe T1 b2).mono λ_ h3 hr=>?_;obtain⟨L2,T2,E2,b3⟩:=hr;rw[ag,fM];refine⟨c2,by omega,rfl,?_⟩;simp only[decide_true,ajb] at b3;refine Ez c2 rfl b3 (by grind) λ_ h4 b4=>af.2 ⟨L2,T2,E1.trans E2,?_⟩;simp only[abM] at b4⊢;exact b4
  refine aR (ndz.Ov ?_);by_cases h10:x.kind=10
  .rw[By (by simpa using h10)];refine aR (ndz.ldO ?_);cases ho:x.ord with
   |true=>rw[ad4];exact J0 60 62 (by unfold br;rw[By h10,ho];rfl)
   |false=>rw[ajP];exact J0 123 125 (by unfold br;rw[By h10,ho];rfl)
  .rw[AT (by simpa using h10)];exact J0 91 93 (by unfold br;rw[AT h10])
end
section
variable {α β:Type}{h h' h0:aj}{L R:List bJ}{N:List al}{root:Int}{B:Nat}{Q:β->aj->Prop}
def aaJ {s:Sl}{root:Int}{N:List al}(z:Z h0 h L)(G:kP h0 s N){B:Nat}(hB:Bd N B)(ht:∀x∈N,x.text.size<=65536){k n:Nat}(hn:k+4*B+65600<n)(hv:pF k N root=some 0){d:Int}{a:Bool}(hd:dep k N root=some (d,a)) :
  Wp (xr n (s,root)) h λx h'=>x=(d,a)/\Z h0 h' L:=by
 unfold xr;refine z.new λx0 h1 z _=>?_;refine z.fH 0 (ls:=[.sl,li]) (x:=(s,root)) ?_;rw[ag];refine (wS z G hB ht hn hv).mono λy h2 hy=>?_;obtain⟨rfl,z⟩:=hy;rw[AT (by simp)];refine z.fH 0 (ls:=[.sl,li]) (x:=(s,root)) ?_;rw[ag];refine (OX z G hB (k:=k) (by omega) (by omega) hd).mono λy h3 hy=>?_;obtain⟨rfl,z⟩:=hy;rw[af];exact⟨rfl,z.drop⟩
def aj4 {s:Sl}{root:Int}{N:List al}(z:Z h0 h L)(G:kP h0 s N){B:Nat}(hB:Bd N B)(ht:∀x∈N,x.text.size<=65536){k n:Nat}(hn:k+4*B+65600<n){r0:Int}(hv:pF k N root=some r0){d:Int}{a:Bool}(hd:r0=0->dep k N root=some (d,a)) :
  Wp (uB n (s,root)) h λx h'=>x=(if r0≠0 then 3 else if a then 0 else 14)/\Z h0 h' L:=by
 unfold uB;refine z.new λx0 h1 z _=>?_;refine z.fH 0 (ls:=[.sl,li]) (x:=(s,root)) ?_;rw[ag];refine (wS z G hB ht hn hv).mono λy h2 hy=>?_;obtain⟨rfl,z⟩:=hy;by_cases h0':y=0
 .subst h0';rw[AT (by simp),AT (by simp)];refine z.fH 0 (ls:=[.sl,li]) (x:=(s,root)) ?_;rw[ag];refine (aaJ z G hB ht hn hv (hd rfl)).mono λy h3 hy=>?_;obtain⟨rfl,z⟩:=hy;cases a
  .exact af.2 ⟨rfl,z.drop⟩
  .exact af.2 ⟨rfl,z.drop⟩
 .rw[By (by simpa using h0'),By h0'];exact af.2 ⟨rfl,z.drop⟩
def aaK {m b:Nat}(hm:m<1073741824)(a0:Addr)(a1:θ) :
  ∀(n i:Nat) (h:aj) (L:List bJ),m-i<n->i<=m->Z h0 h (.au b ((List.replicate i (-1)++List.replicate (m-i) 0).map vi) av::L) ->
   Wp (sW n a0 a1 (arr b m) (m:Int) (i:Int)) h λ_ h'=>Z h0 h' (.au b ((List.replicate m (-1:Int)).map vi) av::L):=by
 intro n
 induction n with
 |zero=>intro i h L h1;omega
 |succ n ih=>
  intro i h L h1 h2 z;rw[Ei];unfold wL;by_cases hi:i<m
  .rw[By (by simp;omega)];refine Jr (b:=b) (n:=m) (by omega) (by omega) ?_;rw[OF,aes];refine z.CH 0 (xs:=List.replicate i (-1)++List.replicate (m-i) 0) (enc:=vi) (v:=(-1:Int)) (by simp;omega) (λh3 z=>?_);have hf:(List.replicate i (-1:Int)++List.replicate (m-i) 0).set i (-1)=List.replicate (i+1) (-1)++List.replicate (m-(i+1)) 0:=by
    rw[alj _ _ (by simp),agi,amf,show m-i=(m-(i+1))+1 by omega,ak0,akB,amU (n:=i),abM];rfl
   rw[hf] at z;rw[wX h2 (by omega)];exact ih (i+1) h3 L (by omega) (by omega) z
  .rw[AT (by simp;omega),af];have:i=m:=by omega
   subst this;simpa using z
noncomputable def JO (N:List al)(root:Int)(r0:Int)(a:Bool):ζ×Int:=
 if r0≠0 then (ofBytes [],3) else if a=false then (ofBytes [],14) else if 65536<(eZ N 100 root).length then (ofBytes [],6) else (ofBytes (eZ N 100 root),0)
def fuK:Nat:=fuW 100+80000
theorem Ry {s:Sl}(hw:WF h)(G:kP h s N)(fw:de N){k:Nat}(hk:gK N.length 80<=k){r0:Int}(hc:pF k N root=some r0){d:Int}{a:Bool}(hd:r0=0->dep k N root=some (d,a))
  (hr:r0=0->a=true->∃H:Int->Nat,(∀u,H u<=60)/\∀u v,Edge N u v->H v<H u) {n:Nat} (hn:fuK<=n) (hn2:k+66000<n) :
  Wp (p8 n (s,root)) h λr h'=>r=JO N root r0 a/\Fr (λ_=>False) h h':=by
 have hWn:fuW 100<=n:=abK (alf _ _) hn;have hl:=fw.len;unfold p8 JO;refine (Z.start hw).new λx0 h1 z _=>?_;refine z.fH 0 (ls:=[.sl,li]) (x:=(s,root)) ?_;rw[ag];refine (aj4 z G fw.bd fw.ht (k:=k) (by omega) hc hd).mono λy h2 hy=>?_;obtain⟨rfl,z⟩:=hy;by_cases h0':r0=0
 .subst h0';rw[AT (show ¬((0:Int)≠0) by simp),AT (show ¬((0:Int)≠0) by simp)];cases a with
  |false=>exact af.2 ⟨rfl,z.fr⟩
  |true=>
   rw[ad4,AT (by simp),AT (by simp)];obtain⟨H,hH1,hH2⟩:=hr rfl rfl;have vd:Vd N root:=vX fw.bd.2.2 fw.bd.1 (by omega) hk hc;refine z.fH 0 (ls:=[.sl,li]) (x:=(s,root)) ?_;have hsl:s.len=N.length:=G.len;rw[ag];refine (of_wp (s:=s) (root:=root) z (by rw[hsl];unfold cP;omega)).mono λx4 h3 hx=>?_;obtain⟨tb,sb,rfl,z⟩:=hx;rw[hsl] at z;refine z.ld 2 (o:=0) (l:=.sl) (x:=s) ?_;rw[hsl];refine z.MW (by omega) (by unfold cP;omega) λkb h4 z _=>?_;rw[OF] at z⊢;rw[pQ (enc:=vi) (x:=(0:Int))] at z;have z0:Z h h4 (.au kb ((List.replicate 0 (-1)++List.replicate (N.length-0) 0).map vi) av::.au tb [aC s,vi root,aC (arr sb N.length)] dA::.au sb (List.replicate N.length aI) aJ::.au x0 [aC s,vi root] ah::[]):=by simpa using z
   rw[ag];refine (aaK (by omega) (ak x0) (some (ak tb)) n 0 h4 _ (by omega) (by omega) z0).mono λ_ h5 z=>?_;refine z.ld 3 (o:=1) (x:=root) ?_;rw[ag];have lw:=aj2 (h0:=h) (tb:=tb) (kb:=kb) (v1:=vi root) (v2:=aC (arr sb N.length)) vd fw hH2 G 100;have hLn:fuL 100<=n:=abK (by unfold fuL;decide) (agm hWn);have h60:=hH1 root;have kok:KOK (FH N H) N.length (List.replicate N.length (-1)):=⟨by simp,λi v hv=>.inl (agU (aq hv))⟩;refine (lw n h5 root (List.replicate N.length (-1)) _ hLn vd.rt (by omega) kok IS z).mono λr h6 hr=>?_;obtain⟨rfl,K',_,z⟩:=hr;have hlen:FH N H root=(eZ N 100 root).length:=by
    rw[Pc vd _ _ vd.rt];exact FG vd hH2 (H root) _ _ root (by omega) (by omega) vd.rt (aa2 _)
   rw[hlen];by_cases hbig:65536<(eZ N 100 root).length
   .rw[By (by unfold vm;simp;omega),By hbig];exact af.2 ⟨rfl,z.fr⟩
   .rw[AT (by unfold vm;simp;omega),AT hbig];refine Tz z λbb h7 b=>?_;obtain⟨p,s',g,q1,q2,zz⟩:=id b;refine zz.ld 5 (o:=1) (x:=root) ?_;rw[ag];have tt:qo ⟨tb,sb,s,root⟩ N [.au tb [aC s,vi root,aC (arr sb N.length)] dA,.au sb (List.replicate N.length aI) aJ,.au x0 [aC s,vi root] ah]:=Tx IS (BY _ IS);refine (aaI (h0:=h) (t:=⟨tb,sb,s,root⟩) (bb:=bb) vd fw hH2 G 100 n h7 root [] [.au kb (K'.map vi) av] _ hWn vd.rt (by omega) (by rw[ad8];omega) tt b).mono λ_ h8 hr=>?_;obtain⟨L',_,_,b8⟩:=hr;rw[abJ] at b8;rw[ag];exact (Kt b8 (by omega)).mono λr h9 hr=>af.2 ⟨by rw[hr.1],hr.2.fr⟩
 .rw[By h0',By h0',By (by simp)];exact af.2 ⟨rfl,z.fr⟩
end
section
variable {N:List al}{root:Int}{B:Nat}
def My {A:ε}:∀{xs:ε},(∀v∈xs,IR A.length v)->∃ys,IA A xs=some ys
 |[],_=>⟨[],rfl⟩
 |x::xs,h=>by
  obtain⟨v,hv⟩:=cI (l:=A) rfl (h x IS);obtain⟨ys,hy⟩:=My (xs:=xs) λw hw=>h w (BY _ hw);exact⟨v::ys,by rw[IA,hv,hy]⟩
theorem Rz {A:ε}:∀{ms:List Bool} {X:List al},ms.length=X.length->lF X A.length->∃R,kN A ms X=some R
 |[],[],_,_=>⟨[],by rw[kN]⟩
 |b::ms,x::X,hl,hI=>by
  obtain⟨R,hR⟩:=Rz (ms:=ms) (X:=X) (by simpa using hl) λy hy=>hI y (BY _ hy);obtain⟨h1,h2⟩:=hI x IS;obtain⟨ks,hk⟩:=My (A:=A) h1;obtain⟨is,hi⟩:=My (A:=A) h2;rw[kN]
  grind
def Mz {A:ε}:∀{ms:List Bool} {X R:List al} {n:Nat},kN A ms X=some R->ms.length=X.length->∀(j:Nat) (y:al),R[j]?=some y ->
  ∃(i:Nat) (x:al),ms[i]?=some true/\X[i]?=some x/\(rL ms n)[i]?=some ((n+j:Nat):Int)/\y.kind=x.kind/\y.text=x.text/\y.ord=x.ord/\IA A x.keys=some y.keys/\IA A x.items=some y.items
 |[],[],R,n,h,_,j,y,hy=>by rw[kN] at h;cases h;simp at hy
 |b::ms,x::X,R,n,h,hl,j,y,hy=>by
  rw[kN] at h;cases b with
  |false=>
   rw[AT (by simp)] at h;obtain⟨i,x',h1,h2,h3,h4⟩:=Mz (n:=n) h (by simpa using hl) j y hy;exact⟨i+1,x',by simpa using h1,by simpa using h2,by rw[rL,AT (by simp)];simpa using h3,h4⟩
  |true=>
   rw[By rfl] at h;split at h
   .rename_i ks is r e1 e2 e3;cases h;cases j with
    |zero=>
     simp at hy;subst hy;exact⟨0,x,rfl,rfl,by rw[rL];rfl,rfl,rfl,rfl,e1,e2⟩
    |succ j=>
     obtain⟨i,x',h1,h2,h3,h4⟩:=Mz (n:=n+1) e3 (by simpa using hl) j y (by simpa using hy);exact⟨i+1,x',by simpa using h1,by simpa using h2,by
      rw[rL,By rfl,aml,h3]
      congr 2;omega,h4⟩
   .cases h
def RA:∀{ms:List Bool} {n i:Nat} {v:Int},(rL ms n)[i]?=some v->(n:Int)<=v
 |[],n,i,v,h=>by rw[rL] at h;simp at h
 |b::ms,n,0,v,h=>by rw[rL] at h;simp at h;omega
 |b::ms,n,i+1,v,h=>by
  rw[rL] at h;have:=RA (ms:=ms) (by simpa using h);split at this<;>omega
def MA:∀{ms:List Bool} {n i j:Nat} {v:Int},ms[i]?=some true->ms[j]?=some true->(rL ms n)[i]?=some v->(rL ms n)[j]?=some v->i=j
 |[],n,i,j,v,h,_,_,_=>by simp at h
 |b::ms,n,0,0,v,_,_,_,_=>rfl
 |b::ms,n,0,j+1,v,h1,h2,h3,h4=>by
  simp at h1;subst h1;rw[rL] at h3 h4;simp at h3;subst h3;rw[By rfl] at h4;have:=RA (ms:=ms) (n:=n+1) (i:=j) (by simpa using h4);omega
 |b::ms,n,i+1,0,v,h1,h2,h3,h4=>by
  simp at h2;subst h2;rw[rL] at h3 h4;simp at h4;subst h4;rw[By rfl] at h3;have:=RA (ms:=ms) (n:=n+1) (i:=i) (by simpa using h3);omega
 |b::ms,n,i+1,j+1,v,h1,h2,h3,h4=>by
  rw[rL] at h3 h4;have:=MA (ms:=ms) (n:=if b=true then n+1 else n) (i:=i) (j:=j) (v:=v) (by simpa using h1) (by simpa using h2) (by simpa using h3) (by simpa using h4);omega
theorem aeg {A:ε}{xs ys:ε}(h:IA A xs=some ys){v:Int}(hv:v∈ys):∃w∈xs,gt A w=some v:=by
 obtain⟨i,hi⟩:=List.mem_iff_getElem?.1 hv;have hl:=xx h;have hlt:=(List.getElem?_eq_some_iff.1 hi).1;obtain⟨x,hx⟩:=gS (l:=xs) (i:=i) (by omega)
 grind [Mf,List.mem_of_getElem?]
theorem Pe (d:Vd N root)(fw:de N){k:Nat}(hk:gK N.length 80<=k){v:Int}(kv:KN N v):∃N' r,kept k N v=some (N',r)/\de N'/\∃H:Int->Nat,(∀u,H u<=60)/\∀u w,Edge N' u w->H w<H u:=by
 obtain⟨H,hH1,hH2⟩:=d.Mn;have hvr:=kv.ir d.ix;have hcf:cf (List.replicate N.length false)=N.length:=by unfold cf;simp
 have hk1:N.length*(80+2)+1<=k:=by
  grind [gK,Nat.mul_le_mul_left,Nat.add_mul]
 obtain⟨ms,em,pm⟩:=(BH (n:=N.length) (W:=λ_ u=>KN N u) d.ix fw.bd.2.2 (λt u w q e=>.step q e) k).1 v (List.replicate N.length false) (by simp) hvr (by rw[hcf];omega);have hml:ms.length=N.length:=by rw[pm.len];simp
 have hAl:(rL ms 0).length=N.length:=by rw[BG,hml]
 obtain⟨r,hr⟩:=cI (l:=rL ms 0) hAl hvr;obtain⟨R,hR⟩:=Rz (A:=rL ms 0) (ms:=ms) (X:=N) hml (by rw[hAl];exact d.ix);have hmark:∀u,gt ms u=some true->KN N u:=λu hu=>by
  rcases pm.snd 0 (λw hw=>by rw[hw];exact kv) (by rw[hcf];omega) u hu with h|⟨_,_,h⟩
  .have:=Bm h;cases this
  .exact h
 have hclo:∀u,gt ms u=some true->∀w,Edge N u w->gt ms w=some true:=λu hu w e=>by
  rcases pm.Wt u hu with h|h
  .have:=Bm h;cases this
  .exact h w e
 have inv:=λ(j:Nat) (y:al)=>Mz (n:=0) hR hml j y;refine⟨R,r,by unfold kept;rw[em];simp only;rw[hr,hR],⟨by have:=Mg hR;have:=fw.len;omega,λy hy=>?_,λy hy=>?_⟩,?_⟩
 .obtain⟨j,hj⟩:=List.mem_iff_getElem?.1 hy;obtain⟨i,x,_,hx,_,_,_,_,e1,e2⟩:=inv j y hj;rw[xx e1,xx e2];exact fw.map x (IN hx)
 .obtain⟨j,hj⟩:=List.mem_iff_getElem?.1 hy;obtain⟨i,x,_,hx,_,_,e,_⟩:=inv j y hj;rw[e];exact fw.txt x (IN hx)
 .have hex:∀j:Int,∃u:Int,(∃u',gt ms u'=some true/\gt (rL ms 0) u'=some j)->gt ms u=some true/\gt (rL ms 0) u=some j:=λj=>by
   by_cases h:∃u',gt ms u'=some true/\gt (rL ms 0) u'=some j
   .obtain⟨u,hu⟩:=h;exact⟨u,λ_=>hu⟩
   .exact⟨0,λq=>absurd q h⟩
  obtain⟨U,hU⟩:=amm hex;have uniq:∀u j,gt ms u=some true->gt (rL ms 0) u=some j->U j=u:=λu j h1 h2=>by
   obtain⟨h3,h4⟩:=hU j ⟨u,h1,h2⟩;have:=MA (aB h3).2 (aB h1).2 (aB h4).2 (aB h2).2;have a1:=(aB h3).1;have a2:=(aB h1).1;omega
  refine⟨λj=>H (U j),λu=>by grind [fw.len],λj w e=>?_⟩;obtain⟨y,hy,hw⟩:=e;obtain⟨hj0,hy2⟩:=aB hy;obtain⟨i,x,hm,hx,ha,_,_,_,e1,e2⟩:=inv j.toNat y hy2;have hgi:gt ms (i:Int)=some true:=by unfold gt;rw[By (by omega),OF];exact hm
  have hgx:gt N (i:Int)=some x:=by unfold gt;rw[By (by omega),OF];exact hx
  have hga:gt (rL ms 0) (i:Int)=some j:=by
   unfold gt;rw[By (by omega),OF,ha];congr 1;omega
  have hu:=uniq _ _ hgi hga;have go:∃q,(q∈x.keys\/q∈x.items)/\gt (rL ms 0) q=some w:=by
   grind [aeg]
  obtain⟨q,q1,q2⟩:=go;have eq:Edge N (i:Int) q:=⟨x,hgx,q1⟩
  grind
end
section
variable {N N':List al}{root v r:Int}{B k:Nat}{A:ε}
theorem MC:∀{xs ys:ε},IA A xs=some ys->ys=xs.map λu=>(gt A u).getD 0
 |[],ys,h=>by cases h;rfl
 |x::xs,ys,h=>by
  rw[IA] at h;cases h1:gt A x with
  |none=>rw[h1] at h;cases h
  |some v=>
   cases h2:IA A xs with
   |none=>rw[h1,h2] at h;cases h
   |some r=>
    rw[h1,h2] at h;cases h;rw[ab4,<-MC h2,h1];rfl
def RB:∀{ms:List Bool} {X R:List al} {n i:Nat} {x:al},kN A ms X=some R->ms[i]?=some true->X[i]?=some x ->
  ∃(j:Nat) (y:al),R[j]?=some y/\(rL ms n)[i]?=some ((n+j:Nat):Int)/\y.kind=x.kind/\y.text=x.text/\y.ord=x.ord/\IA A x.keys=some y.keys/\IA A x.items=some y.items
 |[],X,R,n,i,x,_,h,_=>by simp at h
 |b::ms,[],R,n,i,x,_,_,h=>by simp at h
 |b::ms,z::X,R,n,i,x,h,hm,hx=>by
  rw[kN] at h;cases b with
  |false=>
   rw[AT (by simp)] at h;cases i with
   |zero=>simp at hm
   |succ i=>
    obtain⟨j,y,h1,h2,h3⟩:=RB (n:=n) h (by simpa using hm) (by simpa using hx);exact⟨j,y,h1,by rw[rL,AT (by simp)];simpa using h2,h3⟩
  |true=>
   rw[By rfl] at h;split at h
   .rename_i ks is R' e1 e2 e3;cases h;cases i with
    |zero=>
     simp at hx;subst hx;exact⟨0,_,rfl,by rw[rL];rfl,rfl,rfl,rfl,e1,e2⟩
    |succ i=>
     obtain⟨j,y,h1,h2,h3⟩:=RB (n:=n+1) e3 (by simpa using hm) (by simpa using hx);exact⟨j+1,y,by simpa using h1,by
      rw[rL,By rfl,aml,h2]
      congr 2;omega,h3⟩
   .cases h
theorem Pf (g:GV N root)(hB:∀x∈N,x.keys.length<=B/\x.items.length<=B)(hk:gK N.length B<=k)(hv:IR N.length v)(h:kept k N v=some (N',r)):∃φ,Bo N v N' φ/\φ v=r/\∀u x,iC N v u->gt N u=some x->∃x',gt N' (φ u)=some x'/\x'.keys=x.keys.map φ/\x'.items=x.items.map φ:=by
 have hcf:cf (List.replicate N.length false)=N.length:=by unfold cf;simp
 have hk1:N.length*(B+2)+1<=k:=by
  grind [gK,Nat.mul_le_mul_left,Nat.add_mul]
 obtain⟨ms,em,pm⟩:=(BH (n:=N.length) (W:=λ_ u=>iC N v u) g.ix hB (λt u w q e=>.step q e) k).1 v (List.replicate N.length false) (by simp) hv (by rw[hcf];omega);have hml:ms.length=N.length:=by rw[pm.len];simp
 have hAl:(rL ms 0).length=N.length:=by rw[BG,hml]
 unfold kept at h;rw[em] at h;simp only at h;cases hr:gt (rL ms 0) v with
 |none=>rw[hr] at h;cases h
 |some r'=>
 cases hR:kN (rL ms 0) ms N with
 |none=>rw[hr,hR] at h;cases h
 |some R=>
 rw[hr,hR] at h;cases h;have mk:∀u,iC N v u->gt ms u=some true:=λu w=>by
  induction w with
  |refl=>exact pm.at' _ rfl
  |step _ e ih=>
   rcases pm.Wt _ ih with q|q
   .have:=Bm q;cases this
   .exact q _ e
 have ka:∀u,gt ms u=some true->iC N v u:=λu hu=>by
  rcases pm.snd 0 (λw hw=>by rw[hw];exact .refl) (by rw[hcf];omega) u hu with q|⟨_,_,q⟩
  .have:=Bm q;cases this
  .exact q
 have nd:∀u x,iC N v u->gt N u=some x->∃x',gt N' ((gt (rL ms 0) u).getD 0)=some x'/\x'.kind=x.kind/\x'.text=x.text/\x'.ord=x.ord/\x'.keys=x.keys.map (λu=>(gt (rL ms 0) u).getD 0)/\x'.items=x.items.map λu=>(gt (rL ms 0) u).getD 0:=λu x hu hx=>by
  obtain⟨m0,m1⟩:=aB (mk u hu);obtain⟨j,y,h1,h2,h3,h4,h5,h6,h7⟩:=RB (n:=0) hR m1 (aB hx).2;have e:gt (rL ms 0) u=some (j:Int):=by unfold gt;rw[By m0,h2];simp
  exact⟨y,by rw[e];show gt N' (j:Int)=_;unfold gt;grind,h3,h4,h5,MC h6,MC h7⟩
 refine⟨λu=>(gt (rL ms 0) u).getD 0,⟨λu x hu hx=>?_,λu w hu hw e=>?_,λw hw=>?_,Mg hR⟩,by simp only;rw[hr];rfl,λu x hu hx=>?_⟩
 .obtain⟨y,h1,h2,h3,h4,h5,h6⟩:=nd u x hu hx;refine⟨y,h1,h2,h3,h4,iota x.items.length,.refl _,λ_=>rfl,by grind [BI,gt,rL],?_⟩;by_cases hk10:x.kind=10
  .rw[By hk10,<-g.yC (aq hx) hk10,h5];grind [BI,gt,rL]
  .rw[AT hk10,h5,qc (g.fm x (aq hx)) hk10];rfl
 .obtain⟨a,ha⟩:=cI (l:=rL ms 0) hAl (hu.ir g.ix hv);obtain⟨b,hb⟩:=cI (l:=rL ms 0) hAl (hw.ir g.ix hv);simp only[ha,hb,Option.getD_some] at e;subst e;have:=MA (aB (mk u hu)).2 (aB (mk w hw)).2 (aB ha).2 (aB hb).2;have h1:=(aB ha).1;have h2:=(aB hb).1;omega
 .obtain⟨y,hy⟩:=cI (l:=N') rfl hw;obtain⟨i,x,h1,_,h3,_⟩:=Mz (n:=0) hR hml w.toNat y (aB hy).2;have e:gt (rL ms 0) (i:Int)=some w:=by
   unfold gt;rw[By (by omega),OF,h3];congr 1;have:=hw.1;omega
  exact⟨(i:Int),ka _ (by unfold gt;grind),by grind⟩
 grind
end
section
variable {α β:Type}{h h' h0:aj}{L R:List bJ}{N:List al}{root:Int}{B:Nat}{Q:β->aj->Prop}
def KF:Nat:=7000
theorem de.k0 (f:de N):gK N.length 80<=KF:=by
 grind [f.len,Nat.mul_le_mul,gK,KF]
def de.tot (f:de N)(root:Int):∃r,pF KF N root=some r:=Ro f.bd.2.2 f.bd.1 (by omega) f.k0
def de.dep (f:de N)(h:pF KF N root=some 0):∃d a,dep KF N root=some (d,a):=by
 have d:=vX f.bd.2.2 f.bd.1 (by omega) f.k0 h;have hk:=f.k0;obtain⟨dd,a,e,_⟩:=Tn (k:=KF) d.ix d.rt f.bd.2.2 d.le f.bd.1 (λv hv=>let ⟨_,_,w⟩:=d.wk v hv;w.PW) (by unfold gK at hk;rw[af3] at hk;omega);exact⟨dd,a,e⟩
noncomputable def gc (N:List al)(root:Int):Int:=(pF KF N root).getD 3
noncomputable def gd (N:List al)(root:Int):Bool:=((dep KF N root).map (·.2)).getD false
def de.gc (f:de N)(root:Int):pF KF N root=some (gc N root):=by
 obtain⟨r,e⟩:=f.tot root;unfold Sh.gc;rw[e];rfl
noncomputable def iR (N:List al)(root v:Int):ζ:=
 if gc N root=0 then (match kept KF N v with
  |some (N',r)=>(JO N' r (gc N' r) (gd N' r)).1
  |none=>ofBytes [])
 else ofBytes []
def fuQ:Nat:=fuK+1000
theorem TB {n:Nat}(h:fuQ<=n):fuK<=n/\KF+4*80+65600<n/\KF+66000<n:=by
 have h1:80000<=fuK:=Nat.le_add_left _ _;have h2:fuQ=fuK+1000:=rfl;have h3:KF=7000:=rfl
 grind
def aeh {s:Sl}{node:Int}(z:Z h0 h L)(G:kP h0 s N)(fw:de N){n:Nat}(hn:KF+4*80+65600<n)(hc:gc N root≠0):Wp (kW n (s,root) node) h λx h'=>x=((pH,0),3)/\Z h0 h' L:=by
 unfold kW;refine z.new λx0 h1' z _=>z.new λx1 h2' z _=>?_;refine z.fH 1 (ls:=[.sl,li]) (x:=(s,root)) ?_;rw[ag];refine (wS z G fw.bd fw.ht (k:=KF) hn (fw.gc root)).mono λy h3 hy=>?_;obtain⟨rfl,z⟩:=hy;rw[By (by simpa using hc)];refine z.st 0 (cs':=[aI,vi 0]) λh4 z=>?_;refine z.fH 0 (ls:=[.sl,li]) (x:=(pH,0)) (af.2 ⟨rfl,z.drop.drop⟩)
def TD:de []:=⟨by simp,by simp,by simp⟩
def aj5 {s:Sl}(hs:s.len=0):kP h s []:=⟨[],0,rfl,rY.nil hs,by simp⟩
theorem WK {s:Sl}{v:Int}(z:Z h0 h L)(G:kP h0 s N)(fw:de N)(kv:gc N root=0->KN N v)(hv:IR N.length v){n:Nat}(hn:fuQ<=n){f:ζ×Int->M β}(q:∀x h',x.1=iR N root v->Z h0 h' L->Wp (f x) h' Q) :
  Wp (sh (kW n (s,root) v) λx3=>sh (iB none ah [aI,vi 0]) λx4=>sh (rE (ak x4) [aC x3.1.1,vi x3.1.2]) λ_=>sh (bK [.sl,li] (ak x4)) λ(x6:Sl×Int)=>sh (p8 n (x6.1,x6.2)) f) h Q:=by
 obtain⟨hn1,hn2,hn3⟩:=TB hn;unfold iR at q;by_cases h0':gc N root=0
 .rw[By h0'] at q;have hc:=fw.gc root;rw[h0'] at hc;have d:=vX fw.bd.2.2 fw.bd.1 (by omega) fw.k0 hc;obtain⟨N',r,ek,fw',H,hH1,hH2⟩:=Pe d fw fw.k0 (kv h0');rw[ek] at q;simp only at q;rw[ag];refine (Mi z G fw.bd fw.ht (k:=KF) hn2 hc hv.1 hv.2 ek).mono λx h1 hx=>?_;obtain⟨out,g,R,rfl,eR,z1⟩:=hx;refine z1.new λx4 h2 z2 _=>z2.st 0 (cs':=[aC out,vi r]) λh3 z3=>?_;refine z3.fH 0 (x:=((out,r):cF [.sl,li])) ?_;have Gs:kP h3 out N':=by rw[<-eR];exact Mh z3.drop
  have hgd:gc N' r=0->∃d,dep KF N' r=some (d,gd N' r):=λe=>by
   have:=fw'.gc r;rw[e] at this;obtain⟨dd,a,e2⟩:=fw'.dep this;exact⟨dd,by unfold gd;rw[e2];rfl⟩
  obtain⟨dd,hdd⟩:∃dd,gc N' r=0->dep KF N' r=some (dd,gd N' r):=by
   by_cases e:gc N' r=0
   .obtain⟨dd,e2⟩:=hgd e;exact⟨dd,λ_=>e2⟩
   .exact⟨0,λq=>absurd q e⟩
  refine z3.call (P:=λx _=>x=JO N' r (gc N' r) (gd N' r)) (Ry z3.wf Gs fw' (k:=KF) fw'.k0 (fw'.gc r) hdd (λ_ _=>⟨H,hH1,hH2⟩) hn1 hn3) λx h4 hx f4 z4=>?_;subst hx;exact q _ h4 rfl (z4.drop.drop.sub (ajY _ _))
 .rw[AT h0'] at q;rw[ag];refine (aeh z G fw hn2 h0').mono λx h1 hx=>?_;obtain⟨rfl,z1⟩:=hx;refine z1.new λx4 h2 z2 _=>z2.st 0 (cs':=[aI,vi 0]) λh3 z3=>?_;refine z3.fH 0 (x:=((pH,0):cF [.sl,li])) ?_;have e3:pF KF [] 0=some 3:=rfl;refine z3.call (P:=λx _=>x=JO [] 0 3 false) (Ry z3.wf (aj5 rfl) TD (k:=KF) TD.k0 e3 (d:=0) (a:=false) (λe=>by cases e) (λe=>by cases e) hn1 hn3) λx h4 hx f4 z4=>?_;subst hx;exact q _ h4 rfl z4.drop
theorem aei {s:Sl}{ks:Sl}{l:ε}(G:kP h0 s N)(fw:de N)(ik:IL h0 ks l)(kv:gc N root=0->∀v∈l,KN N v)(hI:∀v∈l,IR N.length v)(hl:l.length<=80){x0:Nat}:∀(n i:Nat) (h:aj) (out:Sl) (g:Nat),fuQ+(l.length-i)+1<=n->i<=l.length ->
  Z h0 h (.sl out 1 ep ((l.take i).map λv=>Value.string (iR N root v)) g::.au x0 [aC s,vi root] ah::L) ->
  Wp (qF n (ak x0) out ks (l.length:Int) (i:Int)) h λr h'=>∃g,Z h0 h' (.sl r 1 ep (l.map λv=>Value.string (iR N root v)) g::.au x0 [aC s,vi root] ah::L):=by
 intro n
 induction n with
 |zero=>intro i h out g h1;omega
 |succ n ih=>
  intro i h out g h1 h2 z;rw[Dp];unfold vg;by_cases hi:i<l.length
  .rw[By (by simpa using hi)];obtain⟨v,hv⟩:=jD (l:=l) (v:=(i:Int)) (by omega) (by omega);refine (ik.fr z.fr).ix (by omega) (aB hv).2 λ_ _ c1=>c1.tC (l:=li) rfl rfl ?_;refine z.fH 1 (x:=((s,root):cF [.sl,li])) ?_;refine WK z G fw (λe=>kv e v (aq hv)) (hI v (aq hv)) (by omega) λx h1' hx z1=>?_;obtain⟨x1,x2⟩:=x;simp only at hx;subst hx;have hol:out.len=i:=by
    have o:uU h1' out 1 ep ((l.take i).map λv=>Value.string (iR N root v)) g:=z1.get 0 rfl;have:=o.1
    grind
   refine Z.Rv z1 0 rfl (by decide) rfl (by rw[hol];unfold cP;omega) λs' h2' g' _ z2 _=>?_;rw[wX (B:=80) (by omega) (by omega)];refine ih (i+1) h2' s' g' (by omega) (by omega) ?_;have tk:(l.take (i+1)).map (λv=>Value.string (iR N root v))=(l.take i).map (λv=>Value.string (iR N root v))++[Value.string (iR N root v)]:=by
    have:=(aB hv).2
    grind [Int.toNat_natCast,List.take_add_one]
   rw[tk];exact z2
  .rw[AT (by simpa using hi)];rw[ajC (by omega)] at z;exact af.2 ⟨g,z⟩
def TE {s:Sl}{x:al}{ks is:Sl}(z:Z h0 h L)(G:kP h0 s N)(fw:de N)(hx:x∈N)(hI:lF N N.length)(ik:IL h0 ks x.keys){n:Nat}(hn:fuQ+100<=n) :
  Wp (wM n (s,root) (x.kind,x.text,x.ord,ks,is)) h λr h'=>∃g,Z h0 h' (.sl r 1 ep (x.keys.map λv=>Value.string (iR N root v)) g::L):=by
 have hb:=(fw.map x hx).2;unfold wM;refine z.new λx0 h1 z _=>z.new λx1 h2 z _=>?_;refine z.ld 0 (o:=3) (l:=.sl) (x:=ks) ?_;have hl:ks.len=x.keys.length:=ik.len;rw[hl,ag];have z0:Z h0 h2 (.sl pH 1 ep ((x.keys.take 0).map λv=>Value.string (iR N root v)) 0::.au x0 [aC s,vi root] ah::L):=by
  have:=(z.drop).add (Fr.refl z.wf) (o:=.sl pH 1 ep [] 0) uU.nil (.inl rfl);simpa using this
 refine (aei G fw ik (λ_ v hv=>.key hx hv) (hI x hx).1 hb n 0 h2 pH 0 (by omega) (by omega) z0).mono λr h3 hr=>af.2 ?_;obtain⟨g,z3⟩:=hr;exact⟨g,z3.sub (List.Sublist.cons_cons _ (amt _ _))⟩
end
section
variable {N N':List al}{root v:Int}{φ:Int->Int}{x x':al}
def IU {F:Int->Nat}{x:al}:∀l:ε,vk F x l=(l.map λk=>(if x.kind=10 then 1+F (nth x.keys k) else 0)+F (nth x.items k)).sum
 |[]=>rfl
 |k::l=>by rw[vk,IU l,ab4,aoo]
theorem IV (I:Bo N v N' φ)(g:GV N root)(hv:IR N.length v):∀(f:Nat) (u:Int),iC N v u->yD N' f (φ u)=yD N f u
 |0,_,_=>rfl
 |f+1,u,hu=>by
  obtain⟨x,hx⟩:=cI (l:=N) rfl (I.ir g hv hu).1;obtain⟨x',hx',E⟩:=I.nd u x hu hx;unfold yD;rw[hx,hx'];simp only;have hil:=E.il;have eb:vq x'=vq x:=by unfold vq om;rw[E.k,E.t,hil]
  rw[eb,hil]
  congr 1
  obtain⟨o,h1,_,h3,h4⟩:=E.e;have lo:o.length=x.items.length:=by rw[h1.length_eq,lG]
  rw[<-Kv (x:=x) h1,IU,IU];have:=BI (ψ:=λk=>(if x.kind=10 then 1+yD N f (nth x.keys k) else 0)+yD N f (nth x.items k)) o;rw[lo] at this;rw[<-this]
  congr 1
  refine alA λp hp=>?_;unfold iota at hp;obtain⟨i,hi,rfl⟩:=List.mem_map.1 hp;have hi:=List.mem_range.1 hi;obtain⟨a,ha⟩:=gS (l:=o) (i:=i) (by omega);have ham:a∈iota x.items.length:=h1.mem_iff.1 (IN ha);unfold iota at ham;obtain⟨j,hj,rfl⟩:=List.mem_map.1 ham;have hj:=List.mem_range.1 hj;obtain⟨p,hp⟩:=gS (l:=x.items) (i:=j) hj;have e1:nth x'.items (i:Int)=φ p:=gO (by grind [gO]);rw[gO ha,e1,gO hp,E.k,IV I g hv f p (hu.step ⟨x,hx,.inr (IN hp)⟩)]
  congr 1
  by_cases hk:x.kind=10
  .rw[By hk,By hk];obtain⟨k,hk2⟩:=gS (l:=x.keys) (i:=j) (by rw[g.yC (aq hx) hk];exact hj);have e2:nth x'.keys (i:Int)=φ k:=gO (by rw[h4,By hk,abF,ha];simp[gO hk2]);rw[e2,gO hk2,IV I g hv f k (hu.step ⟨x,hx,.inl (IN hk2)⟩)]
  .rw[AT hk,AT hk]
def iC.last {u w:Int}(h:iC N u w):u=w\/∃p,iC N u p/\Edge N p w:=by
 cases h with
 |refl=>exact .inl rfl
 |step r e=>exact .inr ⟨_,r,e⟩
section
variable (d:Vd N root)
include d
theorem Vd.down {H:Int->Nat}(hH:∀u v,KN N v->Edge N u v->H v<H u){u w:Int}(k:KN N u)(h:iC N u w):KN N w/\H w<=H u:=by
 induction h with
 |refl=>exact⟨k,aa2 _⟩
 |step _ e ih=>exact⟨ih.1.step e,by have:=hH _ _ (ih.1.step e) e;omega⟩
theorem Vd.apart {i c c':Int}(e:Edge N i c)(e':Edge N i c')(k:KN N c)(k':KN N c')(hne:c≠c'){w:Int}(h:iC N c w)(h':iC N c' w):False:=by
 obtain⟨H,_,hH⟩:=d.Mn;have loop:∀{c:Int},Edge N i c->KN N c->¬iC N c i:=λ{c} e k r=>by
  have h1:=hH i c k e;have h2:=(d.down hH k r).2;omega
 have one:∀{w p q:Int},KN N w->Edge N p w->Edge N q w->p=q:=λkw e1 e2=>(Ml (d.one _ kw) e2).2 _ e1
 induction h with
 |refl=>
  rcases h'.last with q|⟨p,r,q⟩
  .exact hne q.symm
  grind
 |step r ed ih=>
  rename_i p w;have kw:KN N w:=(d.down hH k (r.step ed)).1;rcases h'.last with q|⟨p',r',q⟩
  .grind
  .rw[one kw q ed] at r';exact ih r'
end
def zE {p q r:Nat->Bool}:∀(l:η),(∀i∈l,(p i=true->r i=true)/\(q i=true->r i=true)/\¬(p i=true/\q i=true))->l.countP p+l.countP q<=l.countP r
 |[],_=>by simp
 |i::l,h=>by
  have ih:=zE l λj hj=>h j (BY _ hj)
  grind
noncomputable def cR (N:List al)(u:Int):Nat:=open Classical in (List.range N.length).countP λi:Nat=>decide (iC N u (i:Int))
def aaL:∀(L:ε),(L.Pairwise λc c'=>∀w,¬(iC N c w/\iC N c' w))->(L.map (cR N)).sum<=open Classical in (List.range N.length).countP λi:Nat=>decide (∃c∈L,iC N c (i:Int))
 |[],_=>by simp
 |c::L,h=>by
  rw[amq] at h;have ih:=aaL L h.2;rw[ab4,aoo];refine abK (Nat.add_le_add_left ih _) ?_;unfold cR;refine zE _ λi _=>?_
  grind
def aej (d:Vd N root){u:Int}{x:al}(hx:gt N u=some x)(k:KN N u):((refs x).map (cR N)).sum+1<=cR N u:=by
 obtain⟨H,_,hH⟩:=d.Mn;have ed:∀c∈refs x,Edge N u c:=λc hc=>⟨x,hx,by grind [refs]⟩;have nd:(refs x).Nodup:=List.nodup_iff_count.2 λc=>by
  by_cases hc:c∈refs x
  .have h1:=d.one c (k.step (ed c hc));have h2:=xR (u:=c) (aq hx);rw[akv] at h1;omega
  .rw[List.count_eq_zero.2 hc];omega
 have h1:=aaL (N:=N) (refs x) (nd.imp_of_mem λ{c c'} hc hc' hne w q=>d.apart (ed c hc) (ed c' hc') (k.step (ed c hc)) (k.step (ed c' hc')) hne q.1 q.2);have hu:=mX hx;have h2:(List.range N.length).countP (λi=>i==u.toNat)=1:=by
  have:=(akA (n:=N.length)).count (a:=u.toNat);rw[By (List.mem_range.2 (show u.toNat<N.length by have:=hu.1;have:=hu.2;omega))] at this;exact this
 rw[<-h2];refine abK (Nat.add_le_add_right h1 _) ?_;unfold cR;refine zE _ λi _=>?_;simp only[abD,beq_iff_eq];have e:i=u.toNat->(i:Int)=u:=λe=>by have:=hu.1;omega
 refine⟨λ⟨c,q1,q2⟩=>(iC.one (ed c q1)).trans q2,λq=>by rw[e q];exact .refl,λ⟨⟨c,q1,q2⟩,q3⟩=>?_⟩;rw[e q3] at q2;have a1:=hH u c (k.step (ed c q1)) (ed c q1);have a2:=(d.down hH (k.step (ed c q1)) q2).2;omega
theorem MD (d:Vd N root)(fw:de N):∀(f:Nat) (u:Int),KN N u->yD N f u<=400*cR N u
 |0,u,_=>alm _
 |f+1,u,k=>by
  obtain⟨x,hx⟩:=cI (l:=N) rfl (k.ir d.ix);unfold yD;rw[hx];simp only;have hc:=aej d hx k;have hxm:=aq hx;have hi:=(fw.map x hxm).1;have ht:=fw.txt x hxm;have hb:vq x<=310:=by
   grind [vq,Ku]
  have kk:x.keys.length=(if x.kind=10 then x.items.length else 0):=by
   by_cases hk:x.kind=10
   .rw[By hk,d.map hxm hk]
   .rw[AT hk,d.keys hxm hk];rfl
  have sum:vk (yD N f) x (iota x.items.length)<=x.items.length+400*((refs x).map (cR N)).sum:=by
   have s1:∀l:ε,(∀a∈l,0<=a/\a<x.items.length)->vk (yD N f) x l<=l.length+400*((if x.kind=10 then (l.map λa=>cR N (nth x.keys a)).sum else 0)+(l.map λa=>cR N (nth x.items a)).sum):=by
    intro l
    induction l with
    |nil=>intro _;simp[vk]
    |cons a l ih=>
     intro h;have ih:=ih λb hb=>h b (BY _ hb);obtain⟨a1,a2⟩:=h a IS;have q1:=MD d fw f (nth x.items a) (k.step ⟨x,hx,.inr (bW a1 a2)⟩);rw[vk];simp only[ab4,aoo,abv];by_cases hk:x.kind=10
     .have q2:=MD d fw f (nth x.keys a) (k.step ⟨x,hx,.inl (bW a1 (by rw[d.map hxm hk];exact a2))⟩)
      grind
     grind
   have s2:=s1 (iota x.items.length) (iA _).2;rw[lG] at s2
   grind [Nat.le_trans,refs,iota,cR,nth,BI]
  omega
def agn (u:Int):cR N u<=N.length:=by
 grind [cR,Nat.le_trans,List.countP_le_length]
def de.gv (f:de N):Sh.gc N root=0↔GV N root:=Rn f.bd.2.2 f.bd.1 (by omega) f.k0 (f.gc root)
def de.MY (f:de N)(h:Sh.gc N root=0):Vd N root:=vX f.bd.2.2 f.bd.1 (by omega) f.k0 (by rw[f.gc root,h])
def Kw (fw:de N)(h0:Sh.gc N root=0)(kv:KN N v):∃N' r φ,kept KF N v=some (N',r)/\Bo N v N' φ/\φ v=r/\GV N' r/\de N'/\iR N root v=ofBytes (eZ N' 100 r)/\JO N' r 0 (gd N' r)=(iR N root v,0):=by
 have d:=fw.MY h0;have g:=fw.gv.1 h0;have hv:=kv.ir d.ix;obtain⟨N',r,ek,fw',H,hH1,hH2⟩:=Pe d fw fw.k0 kv;obtain⟨φ,I,hφ,_⟩:=Pf g fw.bd.2.2 fw.k0 hv ek;have g':=I.gv g d hv;rw[hφ] at g';have h0':=fw'.gv.2 g';have d':=fw'.MY h0'
 suffices hh:iR N root v=ofBytes (eZ N' 100 r)/\JO N' r 0 (gd N' r)=(ofBytes (eZ N' 100 r),0) from⟨N',r,φ,ek,I,hφ,g',fw',hh.1,by rw[hh.1];exact hh.2⟩
 have hk:=fw'.k0;obtain⟨dd,a,ed,_,ha⟩:=Tn (k:=KF) g'.ix g'.rt fw'.bd.2.2 g'.le fw'.bd.1 g'.PW (by grind [gK,Nat.add_mul]);have ha:a=true:=ha.2 λu w e q=>by
  have h1:=hH2 u w e;have h2:∀z,iC N' w z->H z<=H w:=λz r=>by
   induction r with
   |refl=>exact aa2 _
   |step _ e ih=>have:=hH2 _ _ e;omega
  have:=h2 u q;omega
 have hgd:gd N' r=true:=by unfold gd;rw[ed];exact ha
 have hlen:(eZ N' 100 r).length<=65536:=by
  rw[Pc d' 100 r g'.rt,<-hφ,IV I g hv 100 v .refl];have h1:=MD d fw 100 v kv;have h2:=agn (N:=N) v;have:=fw.len;omega
 have kr:JO N' r 0 (gd N' r)=(ofBytes (eZ N' 100 r),0):=by
  rw[hgd];unfold JO;rw[AT (by simp),AT (by simp),AT (by omega)]
 refine⟨?_,kr⟩;unfold iR;rw[By h0,ek];simp only;rw[h0',kr]
end
end Go.Sh
