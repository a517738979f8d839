
import Derived.Test.YtmfkngdglbcngaaGreatDoorPag
set_option linter.all false
namespace Go.Sh
open Go Go.Ago Go.Proofs
section
variable {α β:Type}{h h' h0:af}{L:List bu}{Q:β->af->Prop}
abbrev vb (b:UInt8):ξ:=.int .u8 (b.toNat:Int)
theorem Ak {m:M α}{f:α->M β}{x:α}{h1:af}(e:m h=some (x,h1))(q:Wp (f x) h1 Q):Wp (sh m f) h Q:=by
 rw[ah];exact⟨x,h1,e,q⟩
def BS (bb:Nat)(p:θ)(s:Sl)(l:List UInt8)(g:Nat):List bu:=[.au bb [.pointer p,aH s] fF,.sl s 1 gU (l.map vb) g]
def Bb (h0 h:af)(bb:Nat)(l:List UInt8)(L:List bu):Prop:=∃p s g,(p=none\/p=some (an bb))/\(l=[]->s=nP)/\Z h0 h (BS bb p s l g++L)
theorem Rc (z:Z h0 h L){f:Nat->M β}(q:∀bb h',Bb h0 h' bb [] L->Wp (f bb) h' Q):Wp (sh (aM none fF [Value.pointer none,aT]) f) h Q:=by
 refine z.new λbb h1 z1 _=>q bb h1 ?_;have z2:=Z.add z1 (Fr.refl z1.wf) (o:=.sl nP 1 gU [] 0) rL.nil (.inl rfl);exact⟨none,nP,0,.inl rfl,λ_=>rfl,z2.perm (.swap _ _ _)⟩
theorem BW {n bb:Nat}{l:List UInt8}(b:Bb h0 h bb l L):Wp (fu n (some (an bb))) h λ_ h'=>Bb h0 h' bb l L:=by
 obtain⟨p,s,g,hp,hs,z⟩:=b;unfold fu;refine bt ?_;refine z.ld 0 (o:=0) (l:=.ptr) (x:=p) ?_;rcases hp with rfl|rfl
 .rw[AT (by rfl)];have lb:LB h bb [.pointer none,aH s] fF:=z.get 0 rfl;refine bt ?_;refine Ak (x:=an bb) (h1:=h) (by unfold inB;rw[lb.get];rfl) ?_;unfold qo;rw[ah,ag];refine bt ?_;refine Ak (x:=an bb) (h1:=h) (by unfold atB;rw[lb.get];simp) ?_;refine bt ?_;refine z.st 0 (cs':=[.pointer (some (an bb)),aH s]) λh1 z1=>ag.2 ⟨some (an bb),s,g,.inr rfl,hs,z1⟩
 .rw[By (by simp)];refine bt ?_;refine z.ld 0 (o:=0) (l:=.ptr) (x:=some (an bb)) ?_;refine Ak (x:=true) (h1:=h) (by unfold XW;simp) ?_;rw[By (by simp)];exact ag.2 ⟨some (an bb),s,g,.inr rfl,hs,z⟩
theorem Kw {bb:Nat}{p:θ}{s:Sl}{l:List UInt8}{g:Nat}(z:Z h0 h (BS bb p s l g++L)):s.len=l.length:=by
 have o:rL h s 1 gU (l.map vb) g:=z.get 1 rfl;have:=o.1;simp at this;omega
theorem uh {n bb:Nat}{l:List UInt8}{b:UInt8}{c:Int}(hc:c=(b.toNat:Int))(B:Bb h0 h bb l L)(hl:l.length+1<=cF):Wp (aF n (some (an bb)) c) h λ_ h'=>Bb h0 h' bb (l++[b]) L:=by
 subst hc;unfold aF;rw[ah];refine (BW B).mono λ_ h1 B=>?_;obtain⟨p,s,g,hp,hs,z⟩:=B;refine bt ?_;refine z.ld 0 (o:=1) (l:=.sl) (x:=s) ?_;have hsl:=Kw z;refine Z.Px z 1 rfl (by decide) rfl (by rw[hsl];exact hl) λs' h2 g' hs' z2 _=>?_;refine bt ?_;have z2:Z h0 h2 (.au bb [.pointer p,aH s] fF::.sl s' 1 gU ((l++[b]).map vb) g'::L):=by rw[afL];exact z2
 refine z2.st 0 (cs':=[.pointer p,aH s']) λh3 z3=>ag.2 ⟨p,s',g',hp,λe=>by simp at e,z3⟩
theorem za {n bb:Nat}{l:List UInt8}{t:ζ}(B:Bb h0 h bb l L)(hl:l.length+t.size<=cF):Wp (eG n (some (an bb)) t) h λ_ h'=>Bb h0 h' bb (l++t.data.toList) L:=by
 unfold eG;rw[ah];refine (BW B).mono λ_ h1 B=>?_;obtain⟨p,s,g,hp,hs,z⟩:=B;refine bt ?_;refine z.ld 0 (o:=1) (l:=.sl) (x:=s) ?_;have hsl:=Kw z;by_cases ht:t.size=0
 .have e1:t.data.toList=[]:=List.length_eq_zero_iff.1 ht;have e2:bQ t=[]:=by unfold bQ;rw[e1];rfl
  rw[ht,e2,ah];have o:rL h1 s 1 gU (l.map vb) g:=z.get 1 rfl;refine⟨s,h1,?_,?_⟩
  .show s9 false s 1 gU 0 [] h1=some (s,h1);unfold s9;rw[AT rfl];rcases o.2 with⟨rfl,_⟩|⟨_,_,_,b,base,e,_⟩
   .simp
   .rw[e];simp
  .refine bt ?_;rw[e1,aeF];refine z.st 0 (cs':=[.pointer p,aH s]) λh3 z3=>ag.2 ⟨p,s,g,hp,hs,z3⟩
 .have hcl:(bQ t).length=t.size*1:=by unfold bQ;rw[ac3,ac0];rfl
  refine Z.Px z 1 rfl ht hcl (by rw[hsl];exact hl) λs' h2 g' hs' z2 _=>?_;refine bt ?_;have z2:Z h0 h2 (.au bb [.pointer p,aH s] fF::.sl s' 1 gU ((l++t.data.toList).map vb) g'::L):=by rw[afL];exact z2
  refine z2.st 0 (cs':=[.pointer p,aH s']) λh3 z3=>ag.2 ⟨p,s',g',hp,λe=>?_,z3⟩;exfalso;have:=agw List.length e;rw[abY,acW] at this;have h4:t.data.toList.length=t.size:=rfl;omega
theorem Fr.shut (hw:WF h){g:Nat}(h0:g≠0):Fr (·=g) h (h.shut g):=by
 have hg:∀j k,(h.shut g).get j=some k->h.get j=some k:=λj k hj=>by
  grind [af.shut]
 refine⟨⟨λj hj=>?_,hw.used,λj c g' b e hj=>hw.dY j c g' b e (hg _ _ hj),hw.maps⟩,aao _,λj c g' b e hj hx=>?_,λ_ _ _=>rfl,λ_ _=>rfl,λj hj hn=>?_,λ_ _ e _=>e⟩
 .have:=hw.get j hj;simp only[af.shut,this]
 .grind [af.shut,bD]
 .simp only[af.shut,hn]
theorem A6:∀l:List UInt8,bytesOf (l.map vb)=some l
 |[]=>rfl
 |b::l=>by
  simp only[acw,bytesOf,A6 l,IT]
  congr 2
  exact UInt8.toNat_inj.1 (by simp)
theorem H4 {n bb:Nat}{l:List UInt8}(B:Bb h0 h bb l L)(hl:l.length<=1073741824):Wp (gQ n (some (an bb))) h λr h'=>r=ofBytes l/\Z h0 h' L:=by
 obtain⟨p,s,g,hp,hs,z⟩:=B;unfold gQ;refine bt (bt ?_);refine z.ld 0 (o:=1) (l:=.sl) (x:=s) ?_;have hsl:=Kw z;have o:rL h s 1 gU (l.map vb) g:=z.get 1 rfl;cases l with
 |nil=>
  have e:=hs rfl;subst e;rw[ah];refine⟨none,h,rfl,?_⟩;refine z.ld 0 (o:=1) (l:=.sl) (x:=nP) ?_;rw[ah];refine⟨ofBytes [],h,rfl,ag.2 ⟨rfl,z.drop.drop⟩⟩
 |cons b l=>
  have hn:s.len≠0:=by rw[hsl];simp
  obtain⟨b2,base,e1,e2,hg⟩:=o.au hn;rw[ah];refine⟨s.a,h,by rw[e1];unfold Dh;simp only;rw[AT hn],?_⟩;refine z.ld 0 (o:=1) (l:=.sl) (x:=s) ?_;have hr:=o.read;rw[ac0] at hr;rw[ah];have hle:=o.le;have hgo:h0.next<g:=by
   have:=(z.own (.sl s 1 gU ((b::l).map vb) g) (BY _ IS)).2;exact this.resolve_left hg
  have hX:∀o∈L,o.dY=g->o.dY=0:=λo ho e=>by
   have h1:=(List.pairwise_cons.1 z.sP).2;have h2:=(List.pairwise_cons.1 h1).1 o ho;exact absurd (h2 e.symm) hg
  refine⟨ofBytes (b::l),h.shut g,?_,ag.2 ⟨rfl,z.drop.drop.step (Fr.shut z.wf hg) (λg' e _=>by rw[e];exact hgo) hX⟩⟩;unfold X7;rw[e1] at hr⊢;simp only[IT,hr,e2];rw[AT ⟨by omega,by rw[hsl];omega,hg,trivial⟩,A6]
end
section
variable {α β:Type}{h h' h0:af}{L:List bu}{Q:β->af->Prop}
def vQ (b:UInt8):List UInt8:=if b=34\/b=92 then [92,b] else [b]
def Xq (t:List UInt8):List UInt8:=34::t.flatMap vQ++[34]
theorem Xr (b:UInt8):(vQ b).length<=2:=by unfold vQ;split<;>simp
theorem EX:∀t:List UInt8,(t.flatMap vQ).length<=2*t.length
 |[]=>by simp
 |b::t=>by
  rw[adr,abY,aas];have:=Xr b;have:=EX t;omega
theorem byte_at {t:ζ}{i:Nat}(hi:i<t.size):∃b,t[i]?=some b/\t.data.toList[i]?=some b:=by
 have h1:i<t.data.toList.length:=hi;refine⟨t.data.toList[i],?_,abi h1⟩;rw[xq];exact abi h1
theorem u8c {b:UInt8}{c:Nat}(hc:c<256):(b.toNat:Int)=(c:Int)↔b=UInt8.ofNat c:=by
 grind [UInt8.toNat_inj,UInt8.toNat_ofNat']
theorem TF {t:ζ}{bb:Nat}(hs:t.size<=65536):∀(n i:Nat) (h:af),t.size-i<n->i<=t.size->Bb h0 h bb (34::(t.data.toList.take i).flatMap vQ) L ->
  Wp (iW n t (an bb) (t.size:Int) (i:Int)) h λ_ h'=>Bb h0 h' bb (34::t.data.toList.flatMap vQ) L:=by
 intro n
 induction n with
 |zero=>intro i h h1;omega
 |succ n ih=>
  intro i h h1 h2 B;rw[yX];unfold qS;have hlen:t.data.toList.length=t.size:=rfl;by_cases hi:i<t.size
  .rw[AT (by simpa using hi)];obtain⟨b,hb1,hb2⟩:=byte_at hi;have ix:∀{γ:Type} {f:UInt8->M γ} {h:af} {Q:γ->af->Prop},Wp (f b) h Q->Wp (sh (jx t (i:Int)) f) h Q:=λq=>by
    rw[ah,fE]
    grind
   have hq:=EX (t.data.toList.take i);rw[aeO] at hq;have tk:(t.data.toList.take (i+1)).flatMap vQ=(t.data.toList.take i).flatMap vQ++vQ b:=by
    rw[ahH,hb2];simp
   have fin:∀h,Bb h0 h bb (34::(t.data.toList.take i).flatMap vQ++vQ b) L->Wp (iW n t (an bb) (t.size:Int) (IntKind.i64.wrap ((i:Int)+1))) h λ_ h'=>Bb h0 h' bb (34::t.data.toList.flatMap vQ) L:=λh B=>by
    rw[s6 (by omega) (by omega)];refine ih (i+1) h (by omega) (by omega) ?_;rw[tk];exact B
   have one:∀(l:List UInt8) h,Bb h0 h bb l L->l.length<=200000->∀{γ:Type} {f:ξ->M γ} {Q:γ->af->Prop} (c:UInt8) (x:Int),x=(c.toNat:Int)->(∀v h',Bb h0 h' bb (l++[c]) L->Wp (f v) h' Q)->Wp (sh (aF n (some (an bb)) x) f) h Q:=λl h B hl γ f Q c x hx q=>by
    rw[ah];exact (uh hx B (by unfold cF;omega)).mono λv h' B=>q v h' B
   have hl0:(34::(t.data.toList.take i).flatMap vQ).length<=180000:=by simp only[aas];omega
   refine ix ?_;by_cases c1:b=34
   .rw[AT (by rw[c1];rfl)];refine one _ h B (by omega) 92 92 rfl λ_ h1 B=>ix ?_;refine one _ h1 B (by grind) b _ rfl λ_ h2 B=>fin h2 ?_;have:vQ b=[92,b]:=by unfold vQ;rw[AT (.inl c1)]
    grind
   .have c1':¬(decide ((b.toNat:Int)=34))=true:=(by simpa using λe=>c1 ((u8c (c:=34) (by omega)).1 e));rw[By c1'];refine ix ?_;by_cases c2:b=92
    .rw[AT (by rw[c2];rfl)];refine one _ h B (by omega) 92 92 rfl λ_ h1 B=>ix ?_;refine one _ h1 B (by grind) b _ rfl λ_ h2 B=>fin h2 ?_;have:vQ b=[92,b]:=by unfold vQ;rw[AT (.inr c2)]
     grind
    .have c2':¬(decide ((b.toNat:Int)=92))=true:=(by simpa using λe=>c2 ((u8c (c:=92) (by omega)).1 e));rw[By c2'];refine ix ?_;refine one _ h B (by omega) b _ rfl λ_ h2 B=>fin h2 ?_;have:vQ b=[b]:=(by unfold vQ;rw[By (by simp[c1,c2])]);rw[this];exact B
  .rw[By (by simpa using hi)];rw[agR (by omega)] at B;exact ag.2 B
theorem TG {t:ζ}{n:Nat}(hs:t.size<=65536)(hn:t.size<n)(hw:WF h):Wp (ue n t) h λr h'=>r.data.toList=Xq t.data.toList/\Fr (λ_=>False) h h':=by
 unfold ue;refine Rc (Z.start hw) λbb h1 B=>?_;rw[ah];refine (uh (b:=34) rfl B (by unfold cF;simp)).mono λ_ h2 B=>?_;rw[ah];refine (TF hs n 0 h2 (by omega) (by omega) (by simpa using B)).mono λ_ h3 B=>?_;have hq:=EX t.data.toList;have hlen:t.data.toList.length=t.size:=rfl;rw[ah];refine (uh (b:=34) rfl B (by unfold cF;simp only[aas];omega)).mono λ_ h4 B=>?_;rw[ah];refine (H4 B (by grind)).mono λr h5 hr=>ag.2 ?_;obtain⟨rfl,z⟩:=hr;exact⟨by unfold ofBytes Xq;simp,z.fr⟩
end
section
variable {α β:Type}{h h' h0:af}{L:List bu}{Q:β->af->Prop}
def MT:List UInt8:=[48,49,50,51,52,53,54,55,56,57,97,98,99,100,101,102]
def MU (b:UInt8):List UInt8:=[MT.getD (b.toNat/16) 0,MT.getD (b.toNat%16) 0]
noncomputable def wC (x:ak):List UInt8:=
 if x.kind=0 then [110,117,108,108] else if x.kind=5 then Xq x.text.data.toList else if x.kind=6 then 35::x.text.data.toList.flatMap MU else if x.kind=7 then 64::x.text.data.toList else if x.kind=8 then 37::x.text.data.toList else x.text.data.toList
theorem Kx:∀t:List UInt8,(t.flatMap MU).length=2*t.length
 |[]=>rfl
 |b::t=>by rw[adr,abY,aas,Kx t];show 2+_=_;omega
theorem H5 (x:ak):(wC x).length<=2*x.text.size+4:=by
 have h1:x.text.data.toList.length=x.text.size:=rfl;have h2:=EX x.text.data.toList;have h3:=Kx x.text.data.toList
 grind [wC,Xq,List.length_append,List.length_cons,List.length_nil]
theorem af6:∀k:Nat,k<256->IntKind.u8.wrap (((BitVec.ofInt 8 (k:Int)&&&BitVec.ofInt 8 15).toNat:Nat):Int)=((k%16:Nat):Int):=by decide +kernel
theorem Xs {k:Nat}(hk:k<16):(ofBytes MT)[k]?=some (MT.getD k 0):=by
 rw[xq];show MT[k]?=_;rw[aeP];have:k<MT.length:=hk;rw[abi this];rfl
theorem Z.af7 (z:Z h0 h L){cs:δ}{e:κ}{f:Nat->M β}(q:∀b h',Z h0 h' (.sl ⟨some ⟨b,0,none⟩,cs.length,cs.length+1⟩ 1 e cs (b+1)::L)->Wp (f b) h' Q)(hs:cs.all eZ=true:=by rfl):Wp (sh (aM none e cs) f) h Q:=by
 rw[ah,Av];refine⟨hs,q _ _ (z.add (Fr.new z.wf) (o:=.sl ⟨some ⟨h.next,0,none⟩,cs.length,cs.length+1⟩ 1 e cs (h.next+1)) ?_ (.inr (aam _)))⟩
 refine⟨by simp,.inr ⟨by omega,by simp[af.new,af.dA],.inr rfl,h.next,0,rfl,kO,by rw[af.new,vF];simp⟩⟩
theorem Z7 {x:ak}{a:Addr}{ks is:Sl}(nd:Cu h0 a x ks is)(hs:x.text.size<=65536):∀(n i:Nat) (h:af) (s:Sl) (g:Nat),x.text.size-i<n->i<=x.text.size->Z h0 h (.sl s 1 gU ((35::(x.text.data.toList.take i).flatMap MU).map vb) g::L) ->
  Wp (nr n (some a) s (x.text.size:Int) (i:Int)) h λr h'=>∃g,Z h0 h' (.sl r 1 gU ((35::x.text.data.toList.flatMap MU).map vb) g::L):=by
 intro n
 induction n with
 |zero=>intro i h s g h1;omega
 |succ n ih=>
  intro i h s g h1 h2 z;rw[AW];unfold tF;have hlen:x.text.data.toList.length=x.text.size:=rfl;by_cases hi:i<x.text.size
  .rw[AT (by simpa using hi)];obtain⟨b,hb1,hb2⟩:=byte_at hi;have ix:∀{γ:Type} {f:UInt8->M γ} {h:af} {Q:γ->af->Prop},Wp (f b) h Q->Wp (sh (jx x.text (i:Int)) f) h Q:=λq=>by
    rw[ah,fE]
    grind
   have hb:b.toNat<256:=b.toNat_lt;refine bt (bt ((nd.fr z.fr).GJ (ix ?_)));rw[ah,IE];refine⟨by decide,?_⟩;rw[ah,fE];have e1:((b.toNat:Int).fdiv (2^4))=((b.toNat/16:Nat):Int):=by
    rw[ah8 _ (by decide)];rfl
   refine⟨MT.getD (b.toNat/16) 0,by rw[e1];omega,by rw[e1,IT];exact Xs (by omega),?_⟩;refine (nd.fr z.fr).GJ (ix ?_);rw[ah,fE,af6 _ hb];refine⟨MT.getD (b.toNat%16) 0,by omega,by rw[IT];exact Xs (by omega),?_⟩;have hq:=Kx (x.text.data.toList.take i);rw[aeO] at hq;have hsl:s.len=1+2*i:=by
    have o:rL h s 1 gU ((35::(x.text.data.toList.take i).flatMap MU).map vb) g:=z.get 0 rfl;have:=o.1
    grind
   refine Z.Px z 0 rfl (by decide) rfl (by rw[hsl];unfold cF;omega) λs' h2' g' hs' z2 _=>?_;rw[s6 (by omega) (by omega)];refine ih (i+1) h2' s' g' (by omega) (by omega) ?_
   grind [MU,List.take_add_one]
  .rw[By (by simpa using hi)];rw[agR (by omega)] at z;exact ag.2 ⟨g,z⟩
theorem Rd {x:ak}{a:Addr}{ks is:Sl}{n:Nat}(hw:WF h)(nd:Cu h a x ks is)(hs:x.text.size<=65536)(hn:x.text.size<n):Wp (uS n (some a)) h λr h'=>r.data.toList=wC x/\Fr (λ_=>False) h h':=by
 unfold uS wC;refine bt (nd.KJ ?_);by_cases k0:x.kind=0
 .rw[AT (by simpa using k0),AT k0];exact ag.2 ⟨rfl,Fr.refl hw⟩
 rw[By (by simpa using k0),By k0];by_cases k5:x.kind=5
 .rw[AT (by simpa using k5),AT k5];refine bt (nd.GJ ?_);rw[ah];exact (TG hs hn hw).mono λr h1 hr=>ag.2 hr
 rw[By (by simpa using k5),By k5];by_cases k6:x.kind=6
 .rw[AT (by simpa using k6),AT k6];refine Z.af7 (cs:=[vb 35]) (Z.start hw) λb h1 z1=>?_;refine bt ((nd.fr z1.fr).GJ ?_);rw[ah];refine (Z7 nd hs n 0 h1 _ _ (by omega) (by omega) z1).mono λr h2 hr=>?_;obtain⟨g,z2⟩:=hr;have o:rL h2 r 1 gU ((35::x.text.data.toList.flatMap MU).map vb) g:=z2.get 0 rfl;have hr:=o.read;rw[ac0] at hr;refine Ak (x:=ofBytes (35::x.text.data.toList.flatMap MU)) (h1:=h2) (by unfold strOf;rw[hr];simp only[A6]) (ag.2 ⟨by unfold ofBytes;simp,z2.fr⟩)
 rw[By (by simpa using k6),By k6];have cat:∀(c:UInt8),Wp (sh (kA (ofBytes [c]) x.text) λx4=>AI x4) h λr h'=>r.data.toList=c::x.text.data.toList/\Fr (λ_=>False) h h':=λc=>by
  have e:(ofBytes [c]).size=1:=rfl;refine Ak (x:=ofBytes [c]++x.text) (h1:=h) (by unfold kA;rw[AT (by rw[e];unfold cF;omega)]) (ag.2 ⟨?_,Fr.refl hw⟩);rw[ahs,agK];rfl
 by_cases k7:x.kind=7
 .rw[AT (by simpa using k7),AT k7];exact bt (nd.GJ (cat 64))
 rw[By (by simpa using k7),By k7];by_cases k8:x.kind=8
 .rw[AT (by simpa using k8),AT k8];exact bt (nd.GJ (cat 37))
 rw[By (by simpa using k8),By k8];exact bt (nd.GJ (ag.2 ⟨rfl,Fr.refl hw⟩))
end
section
variable {N:List ak}{root:Int}{B:Nat}
def br (x:ak):UInt8×UInt8:=if x.kind=10 then (if x.ord then (60,62) else (123,125)) else (91,93)
def Da (F:Int->List UInt8)(x:ak):Bool->ε->List UInt8
 |_,[]=>[]
 |b,k::r=>(if b then [] else [44])++(if x.kind=10 then F (nth x.keys k)++[61] else [])++F (nth x.items k)++Da F x false r
noncomputable def Z8 (F:Int->List UInt8)(x:ak)(o:ε):List UInt8:=
 if x.kind=11 then 33::x.text.data.toList++[40]++F (nth x.items 0)++[41] else if x.kind<9 then wC x else [(br x).1]++Da F x true o++[(br x).2]
noncomputable def p6 (N:List ak):Nat->Int->List UInt8
 |0,_=>[]
 |f+1,i=>match gt N i with
  |some x=>Z8 (p6 N f) x (eH N i)
  |none=>[]
def mW (F:Int->Nat)(x:ak):ε->Nat
 |[]=>0
 |k::r=>(if x.kind=10 then 1+F (nth x.keys k) else 0)+F (nth x.items k)+mW F x r
noncomputable def qY (x:ak):Nat:=if x.kind=9\/x.kind=10 then 2+(x.items.length-1) else if x.kind=11 then 3+x.text.size else (wC x).length
noncomputable def lg (N:List ak):Nat->Int->Nat
 |0,_=>0
 |f+1,i=>match gt N i with
  |some x=>qY x+mW (lg N f) x (iota x.items.length)
  |none=>0
theorem H6 {F:Int->Nat}{x:ak}{l l':ε}(h:l.Perm l'):mW F x l=mW F x l':=by
 induction h with
 |nil=>rfl
 |cons a _ ih=>simp only[mW,ih]
 |swap a b l=>simp only[mW];omega
 |trans _ _ h1 h2=>rw[h1,h2]
theorem u5 {F G:Int->Nat}{x:ak}:∀{l:ε},(∀a∈l,(x.kind=10->F (nth x.keys a)=G (nth x.keys a))/\F (nth x.items a)=G (nth x.items a))->mW F x l=mW G x l
 |[],_=>rfl
 |a::l,h=>by
  have ih:=u5 (l:=l) λb hb=>h b (BY _ hb);obtain⟨h1,h2⟩:=h a IS;unfold mW
  grind
theorem MV {F:Int->List UInt8}{x:ak}:∀(b:Bool) (l:ε),(Da F x b l).length=mW (λi=>(F i).length) x l+(l.length-(if b then 1 else 0))
 |b,[]=>by cases b<;>rfl
 |b,a::l=>by
  unfold Da mW;simp only[abY,aas];rw[MV false l]
  grind
theorem Db {x:ak}(h:jQ x=some true):0<=x.kind/\x.kind<=11/\(x.kind<9->x.items=[])/\(x.kind=11->x.items.length=1):=by
 unfold jQ at h;by_cases h9:x.kind=9
 .grind
 rw[By h9] at h;by_cases h10:x.kind=10
 .grind
 rw[By h10] at h;by_cases h11:x.kind=11
 .grind
 rw[By h11] at h;by_cases hc:x.ord=false/\x.keys.length=0/\x.items.length=0
 .rw[AT hc] at h;have hi:=List.length_eq_zero_iff.1 hc.2.2;refine⟨?_,?_,λ_=>hi,λe=>absurd e h11⟩
  .by_cases hn:0<=x.kind
   .exact hn
   .exfalso;unfold DG at h
    repeat (rw[By (by omega)] at h)
    cases h
  .by_cases hn:x.kind<=11
   .exact hn
   .exfalso;unfold DG at h
    repeat (rw[By (by omega)] at h)
    cases h
 .rw[By hc] at h;cases h
theorem GF (d:Vd N root):∀(f:Nat) (i:Int),IR N.length i->(p6 N f i).length=lg N f i:=by
 intro f
 induction f with
 |zero=>intro i _;rfl
 |succ f ih=>
  intro i hi;obtain⟨x,hx⟩:=ef (l:=N) rfl hi;unfold p6 lg;rw[hx];simp only;obtain⟨k0,k11,kl,kt⟩:=Db (d.fm x (aq hx));have hI:=d.ix x (aq hx);unfold Z8 qY;by_cases h11:x.kind=11
  .rw[AT h11,By (by omega),AT h11];have e1:=kt h11;rw[e1];have e2:iota 1=[0]:=rfl;rw[e2];unfold mW mW;rw[By (by omega)];have e3:=ih (nth x.items 0) (hI.2 _ (gS (by omega) (by omega)));have e4:x.text.data.toList.length=x.text.size:=rfl
   grind
  rw[By h11];by_cases h9:x.kind<9
  .rw[AT h9,By (by omega),By h11,kl h9];rfl
  rw[By h9,AT (by omega)];simp only[abY,aas,acW];rw[MV true,qW hx];have e:mW (λi=>(p6 N f i).length) x (eH N i)=mW (lg N f) x (iota x.items.length):=by
   have ho:eH N i=tK (mV N) x:=by unfold eH;rw[hx]
   rw[<-H6 (ur (mV N) x),ho];refine u5 λa ha=>?_;have:=kL ha;exact⟨λhk=>ih _ (hI.1 _ (gS this.1 (by rw[d.map (aq hx) hk];exact this.2))),ih _ (hI.2 _ (gS this.1 this.2))⟩
  rw[e];simp only[agN];omega
theorem Dc (d:Vd N root){H:Int->Nat}(hH:∀u v,Edge N u v->H v<H u):∀(t:Nat) (f g:Nat) (i:Int),t<f->t<g->IR N.length i->H i<=t->lg N f i=lg N g i:=by
 intro t
 induction t with
 |zero=>
  intro f g i hf hg hi ht;obtain⟨f,rfl⟩:∃f',f=f'+1:=⟨f-1,by omega⟩;obtain⟨g,rfl⟩:∃f',g=f'+1:=⟨g-1,by omega⟩;obtain⟨x,hx⟩:=ef (l:=N) rfl hi;unfold lg;rw[hx];simp only;rw[u5 λa ha=>?_];exfalso;have h1:=(sq x.items.length).2 a ha;have:=hH i (nth x.items a) ⟨x,hx,.inr (gS h1.1 h1.2)⟩;omega
 |succ t ih=>
  intro f g i hf hg hi ht;obtain⟨f,rfl⟩:∃f',f=f'+1:=⟨f-1,by omega⟩;obtain⟨g,rfl⟩:∃f',g=f'+1:=⟨g-1,by omega⟩;obtain⟨x,hx⟩:=ef (l:=N) rfl hi;have hI:=d.ix x (aq hx);unfold lg;rw[hx];simp only;rw[u5 λa ha=>?_];have h1:=(sq x.items.length).2 a ha;refine⟨λhk=>?_,?_⟩
  .have hm:=gS (l:=x.keys) h1.1 (by rw[d.map (aq hx) hk];exact h1.2);have:=hH i _ ⟨x,hx,.inl hm⟩;exact ih f g _ (by omega) (by omega) (hI.1 _ hm) (by omega)
  .have hm:=gS (l:=x.items) h1.1 h1.2;have:=hH i _ ⟨x,hx,.inr hm⟩;exact ih f g _ (by omega) (by omega) (hI.2 _ hm) (by omega)
end
section
variable {α β:Type}{h h' h0:af}{L R:List bu}{N:List ak}{root:Int}{B:Nat}{Q:β->af->Prop}
def tL (n:Nat):Int:=((min n 65537:Nat):Int)
def Z9 (lv:Int->Nat)(m:Nat)(K:ε):Prop:=K.length=m/\∀i v,gt K i=some v->v=-1\/v=tL (lv i)
abbrev clL (n:Nat):bj:=bj.at n
def fuL (f:Nat):Nat:=1000+f*100
def af9 (h0:af)(tb kb m:Nat)(tc:δ)(N:List ak)(lv:Int->Nat)(H:Int->Nat)(f:Nat):Prop:=∀(n:Nat) (h:af) (k:Int) (K:ε) (L:List bu),fuL f<=n->IR N.length k->H k<f->Z9 lv m K->bu.au tb tc dn∈L->Z h0 h (.au kb (K.map vi) av::L) ->
 Wp ((clL n).eU (some (an tb)) k (arr kb m)) h λr h'=>r=tL (lv k)/\∃K',Z9 lv m K'/\Z h0 h' (.au kb (K'.map vi) av::L)
def TY (c:Int)(s:Nat):Prop:=0<=c/\min c 65537=((min s 65537:Nat):Int)
theorem TY.add {c:Int}{s v:Nat}(h:TY c s):TY (c+tL v) (s+v):=by
 unfold TY tL at *
 omega
theorem TY.one {c:Int}{s:Nat}(h:TY c s):TY (c+1) (s+1):=by
 unfold TY at *
 omega
theorem Ky (v:Nat):0<=tL v/\tL v<=65537:=by unfold tL;omega
theorem aeq {tb kb m:Nat}{tc:δ}{lv:Int->Nat}{H:Int->Nat}{f:Nat}(V:af9 h0 tb kb m tc N lv H f){x:ak}{a:Addr}{ks is:Sl}(nd:Cu h0 a x ks is)(hb:x.items.length<=80)(hk:x.kind=10->x.keys.length=x.items.length)(hI:(∀v∈x.keys,IR N.length v)/\∀v∈x.items,IR N.length v)
  (hH:(∀v∈x.keys,H v<f)/\∀v∈x.items,H v<f) (k0:Int):∀(n i:Nat) (h:af) (K:ε) (L:List bu) (c:Int) (s:Nat),fuL f+(x.items.length-i)+1<=n->i<=x.items.length->TY c s->c<=1000000+(i:Int)*200000->Z9 lv m K->bu.au tb tc dn∈L->Z h0 h (.au kb (K.map vi) av::L) ->
  Wp ((clL n).eB (some (an tb)) k0 (arr kb m) (some a) c is (x.items.length:Int) (i:Int)) h λr h'=>TY r (s+mW lv x ((iota x.items.length).drop i))/\∃K',Z9 lv m K'/\Z h0 h' (.au kb (K'.map vi) av::L):=by
 intro n
 induction n with
 |zero=>intro i h K L c s h1;omega
 |succ n ih=>
  intro i h K L c s h1 h2 hc hcb ok ht z;show Wp (lY (clL n) n (some (an tb)) k0 (arr kb m) (some a) c is (x.items.length:Int) (i:Int)) h _;unfold lY;by_cases hi:i<x.items.length
  .rw[AT (by simpa using hi)];obtain⟨iu,hiu⟩:=kW (l:=x.items) (v:=(i:Int)) (by omega) (by omega);have ndz:=nd.fr z.fr;have hd:(iota x.items.length).drop i=(i:Int)::(iota x.items.length).drop (i+1):=drop_cons (qV hi);have ei:nth x.items (i:Int)=iu:=by unfold nth;rw[hiu];rfl
   rw[hd];refine ndz.items.ix (by omega) (aD hiu).2 λ_ _ c1=>c1.sy (l:=li) rfl rfl ?_;refine bt (ndz.KJ ?_);by_cases h10:x.kind=10
   .rw[AT (by simpa using h10)];obtain⟨ku,hku⟩:=kW (l:=x.keys) (v:=(i:Int)) (by omega) (by rw[hk h10];omega);have ek:nth x.keys (i:Int)=ku:=(by unfold nth;rw[hku];rfl);refine bt (ndz.G5 (ndz.keys.ix (by omega) (aD hku).2 λ_ _ c1=>c1.sy (l:=li) rfl rfl ?_));rw[ah];refine (V n h ku K L (by omega) (hI.1 _ (aq hku)) (hH.1 _ (aq hku)) ok ht z).mono λr h3 hr=>?_;obtain⟨rfl,K1,ok1,z1⟩:=hr;rw[ah];refine (V n h3 iu K1 L (by omega) (hI.2 _ (aq hiu)) (hH.2 _ (aq hiu)) ok1 ht z1).mono λr h4 hr=>?_;obtain⟨rfl,K2,ok2,z2⟩:=hr;have b1:=Ky (lv ku);have b2:=Ky (lv iu);have hc0:=hc.1;rw[s6 (x:=1+tL (lv ku)) (by omega) (by omega),s6 (x:=c+(1+tL (lv ku))) (by omega) (by omega),s6 (x:=c+(1+tL (lv ku))+tL (lv iu)) (by omega) (by omega),vq (B:=80) (by omega) (by omega)];have hc':TY (c+(1+tL (lv ku))+tL (lv iu)) (s+(1+lv ku)+lv iu):=by
     have:=((hc.one).add (v:=lv ku)).add (v:=lv iu)
     grind
    refine (ih (i+1) h4 K2 L _ _ (by omega) (by omega) hc' (by push_cast;omega) ok2 ht z2).mono λr h5 hr=>⟨?_,hr.2⟩;unfold mW
    grind
   .rw[By (by simpa using h10)];rw[ah];refine (V n h iu K L (by omega) (hI.2 _ (aq hiu)) (hH.2 _ (aq hiu)) ok ht z).mono λr h4 hr=>?_;obtain⟨rfl,K2,ok2,z2⟩:=hr;have b2:=Ky (lv iu);have hc0:=hc.1;rw[s6 (x:=c+tL (lv iu)) (by omega) (by omega),vq (B:=80) (by omega) (by omega)];refine (ih (i+1) h4 K2 L _ _ (by omega) (by omega) (hc.add (v:=lv iu)) (by push_cast;omega) ok2 ht z2).mono λr h5 hr=>⟨?_,hr.2⟩;unfold mW
    grind
  .rw[By (by simpa using hi)];rw[abV (by rw[po];omega)];exact ag.2 ⟨hc,K,ok,z⟩
theorem Z9.set {lv:Int->Nat}{m:Nat}{K:ε}(ok:Z9 lv m K){k:Int}(hk:IR m k):Z9 lv m (K.set k.toNat (tL (lv k))):=by
 refine⟨by rw[aeN];exact ok.1,λi v hv=>?_⟩;rw[fP (by rw[ok.1];exact hk)] at hv;split at hv
 .rename_i e;subst e;exact .inr (ab0 hv).symm
 .exact ok.2 i v hv
noncomputable def Dd (N:List ak)(H:Int->Nat)(i:Int):Nat:=lg N (H i+1) i
theorem aaa (d:Vd N root){H:Int->Nat}(hH:∀u v,Edge N u v->H v<H u){i:Int}{x:ak}(hx:gt N i=some x):Dd N H i=qY x+mW (Dd N H) x (iota x.items.length):=by
 have hi:IR N.length i:=mT hx;have hI:=d.ix x (aq hx);show lg N (H i+1) i=_;unfold lg;rw[hx];simp only;rw[u5 λa ha=>?_];have h1:=(sq x.items.length).2 a ha;refine⟨λhk=>?_,?_⟩
 .have hm:=gS (l:=x.keys) h1.1 (by rw[d.map (aq hx) hk];exact h1.2);have:=hH i _ ⟨x,hx,.inl hm⟩;exact Dc d hH (H (nth x.keys a)) _ _ _ this (by omega) (hI.1 _ hm) (aao _)
 .have hm:=gS (l:=x.items) h1.1 h1.2;have:=hH i _ ⟨x,hx,.inr hm⟩;exact Dc d hH (H (nth x.items a)) _ _ _ this (by omega) (hI.2 _ hm) (aao _)
theorem aer (d:Vd N root)(fw:eK N){H:Int->Nat}(hH:∀u v,Edge N u v->H v<H u){tb kb:Nat}{s:Sl}{v1 v2:ξ}(G:kX h0 s N):∀f,af9 h0 tb kb N.length [aH s,v1,v2] N (Dd N H) H f:=by
 intro f
 induction f with
 |zero=>intro n h k K L _ _ hk;omega
 |succ f V=>
  intro n h k K L hn hkr hkf ok ht z;obtain⟨n,rfl⟩:∃n',n=n'+1:=⟨n-1,by unfold fuL at hn;omega⟩;show Wp (oi (clL n) n (some (an tb)) k (arr kb N.length)) h _;unfold oi;obtain⟨v,hv⟩:=ef ok.1 hkr;obtain⟨x,hx⟩:=ef (l:=N) rfl hkr;refine z.Hn 0 hv ok.1 ?_;by_cases h0':0<=v
  .rw[AT (by simpa using h0')];have e:v=tL (Dd N H k):=(ok.2 k v hv).resolve_left (by omega);refine z.Hn 0 hv ok.1 (ag.2 ⟨e,K,ok,z⟩)
  rw[By (by simpa using h0')];refine bt ?_;refine z.ET (o:=0) (l:=.sl) (x:=s) (BY _ ht) rfl rfl ?_;refine G.NW z (aD hx).1 (aD hx).2 λa ks is nd=>?_;have hI:=d.ix x (aq hx);have hbx:=(fw.map x (aq hx)).1;have htx:=fw.txt x (aq hx);have hlf:=H5 x;have hil:is.len=x.items.length:=nd.items.len;have J1:∀(c:Int) (h:af),Z h0 h (.au kb (K.map vi) av::L)->c=((qY x:Nat):Int)->Wp (dK (clL n) n (some (an tb)) k (arr kb N.length) (some a) c) h λr h'=>r=tL (Dd N H k)/\∃K',Z9 (Dd N H) N.length K'/\Z h0 h' (.au kb (K'.map vi) av::L):=by
   intro c h z hc;subst hc;unfold dK;refine bt ((nd.fr z.fr).Bz ?_);rw[hil,ah];have hbl:qY x<=400:=by unfold qY;split<;>(try split)<;>omega
   refine (aeq V nd hbx (d.map (aq hx)) hI ⟨λv hv=>by have:=hH k v ⟨x,hx,.inl hv⟩;omega,λv hv=>by have:=hH k v ⟨x,hx,.inr hv⟩;omega⟩ k n 0 h K L _ (qY x) (by unfold fuL at hn⊢;omega) (by omega) ⟨by omega,by omega⟩ (by omega) ok ht z).mono λr h1 hr=>?_;obtain⟨hcap,K',ok',z1⟩:=hr;rw[afj,<-aaa d hH hx] at hcap;have e:(if decide ((65537:Int)<r)=true then (65537:Int) else r)=tL (Dd N H k):=by
    unfold TY at hcap;unfold tL
    grind
   have e':(if (65537:Int)<r then (65537:Int) else r)=tL (Dd N H k):=by rw[<-e];simp
   refine G4 (b:=kb) (n:=N.length) hkr.1 hkr.2 ?_;rw[ac0]
   first
    |rw[e]
    |rw[e']
   refine z1.As 0 (xs:=K') (enc:=vi) (v:=tL (Dd N H k)) (by rw[ok'.1];have:=hkr.1;have:=hkr.2;omega) λh2 z2=>?_;have ok2:=ok'.set hkr;have hg:gt (K'.set k.toNat (tL (Dd N H k))) k=some (tL (Dd N H k)):=by rw[fP (by rw[ok'.1];exact hkr),AT rfl]
   refine Z.Hn z2 0 hg ok2.1 (ag.2 ⟨rfl,_,ok2,z2⟩)
  have big:(2:Int)+(if (0:Int)<IntKind.i64.wrap ((x.items.length:Int)-1) then IntKind.i64.wrap ((x.items.length:Int)-1) else 0)=((2+(x.items.length-1):Nat):Int):=by
   rw[s6 (by omega) (by omega)];split<;>omega
  refine bt ((nd.fr z.fr).KJ ?_);by_cases k9:x.kind=9
  .rw[AT (by simpa using k9)];refine bt ((nd.fr z.fr).Bz ?_);rw[hil,big,s6 (by omega) (by omega)];exact J1 _ h z (by unfold qY;rw[AT (.inl k9)])
  rw[By (by simpa using k9)];by_cases k10:x.kind=10
  .rw[AT (by simpa using k10)];refine bt ((nd.fr z.fr).Bz ?_);rw[hil,big,s6 (by omega) (by omega)];exact J1 _ h z (by unfold qY;rw[AT (.inr k10)])
  rw[By (by simpa using k10)];unfold lZ;by_cases k11:x.kind=11
  .rw[AT (by simpa using k11)];refine bt ((nd.fr z.fr).GJ ?_);rw[s6 (by omega) (by omega)];exact J1 _ h z (by unfold qY;rw[By (by omega),AT k11];push_cast;rfl)
  .rw[By (by simpa using k11)];refine z.call (P:=λr _=>r.data.toList=wC x) (Rd z.wf (nd.fr z.fr) (by omega) (by unfold fuL at hn;omega)) λr h1 hr f1 z1=>?_;refine J1 _ h1 z1 ?_;unfold qY;rw[By (by omega),By k11,<-hr];rfl
end
section
variable {α β:Type}{h h' h0:af}{L R:List bu}{N:List ak}{root:Int}{B:Nat}{Q:β->af->Prop}
abbrev clW (n:Nat):aX:=aX.at n
def fuW (f:Nat):Nat:=fuE 80+70000+f*100
theorem Xt (f:Nat):fuW (f+1)=fuW f+100:=by unfold fuW;rw[aen,ag1];rfl
theorem aga {f n:Nat}(h:fuW f<=n):fuE 80<=n:=abX (abX (ahQ _ 70000) (ahQ _ _)) h
theorem abZ {f n:Nat}(h:fuW f<=n):70000<=n:=abX (abX (Nat.le_add_left 70000 _) (ahQ _ _)) h
def agb (h0:af)(t:Pv)(bb:Nat)(N:List ak)(H:Int->Nat)(f:Nat):Prop:=∀(n:Nat) (h:af) (k:Int) (l:List UInt8) (R L:List bu),fuW f<=n->IR N.length k->H k<f->l.length+(p6 N f k).length<=1000000->o6 t N L->Bb h0 h bb l (R++L) ->
 Wp ((clW n).fI (some (an t.tb)) (some (an bb)) k) h λ_ h'=>∃L',o6 t N L'/\Ext L L'/\Bb h0 h' bb (l++p6 N f k) (R++L')
theorem Bb.z {bb:Nat}{l:List UInt8}(b:Bb h0 h bb l L):Z h0 h L:=by
 obtain⟨p,s,g,_,_,z⟩:=b;exact z.drop.drop
theorem Bb.on {bb:Nat}{l:List UInt8}{X:List bu}(b:Bb h0 h bb l X){γ:Type}{M:M γ}{Q:γ->af->Prop}(q:∀F,Z h0 h (F++X)->(∀h' X',Z h0 h' (F++X')->Bb h0 h' bb l X')->Wp M h Q):Wp M h Q:=by
 obtain⟨p,s,g,h1,h2,z⟩:=b;exact q (BS bb p s l g) z λh' X' z'=>⟨p,s,g,h1,h2,z'⟩
theorem BX {n bb:Nat}{l:List UInt8}(c:UInt8){x:Int}(hx:x=(c.toNat:Int)){X:List bu}(b:Bb h0 h bb l X)(hl:l.length<=1000000){f:ξ->M β}(q:∀v h',Bb h0 h' bb (l++[c]) X->Wp (f v) h' Q):Wp (sh (aF n (some (an bb)) x) f) h Q:=by
 rw[ah];exact (uh hx b (by unfold cF;omega)).mono λv h' b=>q v h' b
theorem aes {t:Pv}{bb be:Nat}{H:Int->Nat}{f:Nat}(V:agb h0 t bb N H f){x:ak}{a:Addr}{ks is:Sl}(nd:Cu h0 a x ks is){o:ε}(ho:∀u∈o,0<=u/\u<x.items.length/\(x.kind=10->u<x.keys.length))(hol:o.length<=80)(hI:(∀v∈x.keys,IR N.length v)/\∀v∈x.items,IR N.length v)
  (hH:(∀v∈x.keys,H v<f)/\∀v∈x.items,H v<f) (ends:ζ):∀(n i:Nat) (h:af) (l:List UInt8) (R L:List bu),fuW f+(o.length-i)+1<=n->i<=o.length->l.length+(Da (p6 N f) x (decide (i=0)) (o.drop i)).length<=999999->bu.au be (o.map vi) av∈L->o6 t N L->Bb h0 h bb l (R++L) ->
  Wp ((clW n).eV (some (an t.tb)) (some (an bb)) (some a) ends (arr be o.length) (o.length:Int) (i:Int)) h λ_ h'=>∃L',o6 t N L'/\Ext L L'/\Bb h0 h' bb (l++Da (p6 N f) x (decide (i=0)) (o.drop i)) (R++L'):=by
 intro n
 induction n with
 |zero=>intro i h l R L h1;omega
 |succ n ih=>
  intro i h l R L h1 h2 hl hbe T b;show Wp (mK (clW n) n (some (an t.tb)) (some (an bb)) (some a) ends (arr be o.length) (o.length:Int) (i:Int)) h _;unfold mK;by_cases hi:i<o.length
  .rw[AT (by simpa using hi)];obtain⟨u,hu⟩:=kW (l:=o) (v:=(i:Int)) (by omega) (by omega);obtain⟨u1,u2,u3⟩:=ho u (aq hu);obtain⟨iu,hiu⟩:=kW (l:=x.items) u1 u2;have ei:nth x.items u=iu:=by unfold nth;rw[hiu];rfl
   rw[zA hu] at hl⊢;refine b.z.rdM (abW _ hbe) hu rfl ?_;have hne:decide (i+1=0)=false:=by simp
   have J1:∀(h:af) (l2:List UInt8) (L:List bu),l2.length+(p6 N f iu).length+(Da (p6 N f) x false (o.drop (i+1))).length<=999999->bu.au be (o.map vi) av∈L->o6 t N L->Bb h0 h bb l2 (R++L) ->
     Wp (fA (clW n) n (some (an t.tb)) (some (an bb)) (some a) ends u (arr be o.length) (o.length:Int) (i:Int)) h λ_ h'=>∃L',o6 t N L'/\Ext L L'/\Bb h0 h' bb (l2++(p6 N f iu++Da (p6 N f) x false (o.drop (i+1)))) (R++L'):=by
    intro h l2 L hl2 hbe T b;unfold fA;refine bt ?_;have ndz:=nd.fr b.z.fr;refine ndz.Bz (ndz.items.ix u1 (aD hiu).2 λ_ _ c1=>c1.sy (l:=li) rfl rfl ?_);rw[ah];refine (V n h iu l2 R L (by omega) (hI.2 _ (aq hiu)) (hH.2 _ (aq hiu)) (by omega) T b).mono λ_ h3 hr=>?_;obtain⟨L1,T1,E1,b1⟩:=hr;rw[vq (B:=80) (by omega) (by omega)];refine (ih (i+1) h3 _ R L1 (by omega) (by omega) (by rw[hne,abY];omega) (E1 _ _ hbe) T1 b1).mono λ_ h4 hr=>?_;obtain⟨L2,T2,E2,b2⟩:=hr;rw[hne,acu] at b2;exact⟨L2,T2,E1.trans E2,b2⟩
   have J0:∀(h:af) (l2:List UInt8),l2.length+((if x.kind=10 then p6 N f (nth x.keys u)++[61] else [])++p6 N f (nth x.items u)++Da (p6 N f) x false (o.drop (i+1))).length<=999999->Bb h0 h bb l2 (R++L) ->
     Wp (fB (clW n) n (some (an t.tb)) (some (an bb)) (some a) ends u (arr be o.length) (o.length:Int) (i:Int)) h λ_ h'=>∃L',o6 t N L'/\Ext L L'/\Bb h0 h' bb (l2++((if x.kind=10 then p6 N f (nth x.keys u)++[61] else [])++p6 N f (nth x.items u)++Da (p6 N f) x false (o.drop (i+1)))) (R++L'):=by
    intro h l2 hl2 b;unfold fB;rw[ei] at hl2⊢;refine bt ((nd.fr b.z.fr).KJ ?_);by_cases hk:x.kind=10
    .rw[AT (by simpa using hk)];simp only[AT hk] at hl2⊢;obtain⟨ku,hku⟩:=kW (l:=x.keys) u1 (u3 hk);have ek:nth x.keys u=ku:=(by unfold nth;rw[hku];rfl);rw[ek] at hl2⊢;simp only[abY,aas,acW] at hl2;have ndz:=nd.fr b.z.fr;refine bt (ndz.G5 (ndz.keys.ix u1 (aD hku).2 λ_ _ c1=>c1.sy (l:=li) rfl rfl ?_));rw[ah];refine (V n h ku l2 R L (by omega) (hI.1 _ (aq hku)) (hH.1 _ (aq hku)) (by omega) T b).mono λ_ h3 hr=>?_;obtain⟨L1,T1,E1,b1⟩:=hr;refine BX 61 rfl b1 (by rw[abY];omega) λ_ h4 b2=>?_;refine (J1 h4 _ L1 (by grind) (E1 _ _ hbe) T1 b2).mono λ_ h5 hr=>?_;obtain⟨L2,T2,E2,b3⟩:=hr;refine⟨L2,T2,E1.trans E2,?_⟩
     grind
    .rw[By (by simpa using hk)];simp only[By hk,aeQ,abY] at hl2⊢;exact J1 h l2 L (by omega) hbe T b
   unfold Da at hl⊢;by_cases h0':i=0
   .subst h0';rw[By (by simp)];simp only[decide_true,agN,aeQ] at hl⊢;exact J0 h l hl b
   .rw[AT (by simp;omega)];have e0:decide (i=0)=false:=(by simpa using h0');rw[e0] at hl⊢;simp only[adZ,aeL] at hl⊢;simp only[abY,aas,acW] at hl;refine BX 44 rfl b (by omega) λ_ h3 b1=>?_;refine (J0 h3 (l++[44]) (by grind) b1).mono λ_ h4 hr=>?_
    grind
  .rw[By (by simpa using hi)];rw[abV (by omega)];refine ag.2 ⟨L,T,.refl,?_⟩
   grind [Da,p6,decide]
theorem Xu (d:Vd N root)(fw:eK N){H:Int->Nat}(hH:∀u v,Edge N u v->H v<H u){t:Pv}{bb:Nat}(G:kX h0 t.s N):∀f,agb h0 t bb N H f:=by
 intro f
 induction f with
 |zero=>intro n h k l R L _ _ hk;omega
 |succ f V=>
  intro n h k l R L hn hkr hkf hl T b;rw[Xt] at hn;obtain⟨n,rfl⟩:∃n',n=n'+1:=⟨n-1,by omega⟩;have hT:=abZ (f:=f) (n:=n) (by omega);show Wp (o0 (clW n) n (some (an t.tb)) (some (an bb)) k) h _;unfold o0;obtain⟨x,hx⟩:=ef (l:=N) rfl hkr;obtain⟨k0,k11,kl,kt⟩:=Db (d.fm x (aq hx));have hI:=d.ix x (aq hx);have hbx:=(fw.map x (aq hx)).1;have htx:=fw.txt x (aq hx);have hHx:(∀v∈x.keys,H v<f)/\∀v∈x.items,H v<f:=⟨λv hv=>by have:=hH k v ⟨x,hx,.inl hv⟩;omega,λv hv=>by have:=hH k v ⟨x,hx,.inr hv⟩;omega⟩;have hkey:p6 N (f+1) k=Z8 (p6 N f) x (eH N k):=by
   conv=>lhs;unfold p6
   rw[hx]
  rw[hkey] at hl⊢;obtain⟨C,TC⟩:=id T;refine bt ?_;refine b.z.ET (o:=0) (l:=.sl) (x:=t.s) (abW _ TC.Kv) rfl rfl ?_;refine G.NW b.z (aD hx).1 (aD hx).2 λa ks is nd=>?_;have ndz:=nd.fr b.z.fr;refine bt (ndz.KJ ?_);unfold Z8 at hl⊢;by_cases h11:x.kind=11
  .rw[AT (by simpa using h11)];rw[AT h11] at hl⊢;have e1:=kt h11;obtain⟨i0,hi0⟩:=kW (l:=x.items) (v:=0) (by omega) (by omega);have ei:nth x.items 0=i0:=by unfold nth;rw[hi0];rfl
   rw[ei] at hl⊢;have hts:x.text.data.toList.length=x.text.size:=rfl;simp only[abY,aas,acW] at hl;refine bt (ndz.GJ ?_);have s1:(ofBytes [33]).size=1:=rfl;have s2:(ofBytes [40]).size=1:=rfl;refine Ak (x:=ofBytes [33]++x.text) (h1:=h) (by unfold kA;rw[AT (by rw[s1];unfold cF;omega)]) ?_;refine Ak (x:=ofBytes [33]++x.text++ofBytes [40]) (h1:=h) (by unfold kA;rw[AT (by rw[agA,s1,s2];unfold cF;omega)]) ?_;rw[ah];refine (za b (by grind [ByteArray.size_append,cF])).mono λ_ h1 b1=>?_;have e2:(ofBytes [33]++x.text++ofBytes [40]).data.toList=33::x.text.data.toList++[40]:=by
    rw[ahs,ahs,agK,agK];rfl
   rw[e2] at b1;have ndz1:=nd.fr b1.z.fr;refine bt (ndz1.Bz (ndz1.items.ix (by omega) (aD hi0).2 λ_ _ c1=>c1.sy (l:=li) rfl rfl ?_));rw[ah];refine (V n h1 i0 _ R L (by omega) (hI.2 _ (aq hi0)) (hHx.2 _ (aq hi0)) (by grind) T b1).mono λ_ h2 hr=>?_;obtain⟨L1,T1,E1,b2⟩:=hr;refine BX 41 rfl b2 (by grind) λ_ h3 b3=>ag.2 ⟨L1,T1,E1,?_⟩;simp only[acu] at b3⊢;exact b3
  rw[By (by simpa using h11)];rw[By h11] at hl⊢;refine bt (ndz.KJ ?_);by_cases h9:x.kind<9
  .rw[AT (by simpa using h9)];rw[AT h9] at hl⊢;refine b.on λF z back=>?_;refine z.call (P:=λr _=>r.data.toList=wC x) (Rd z.wf (nd.fr z.fr) (by omega) (by omega)) λr h1 hr f1 z1=>?_;have b1:=back h1 _ z1;rw[ah];have hrs:r.size=(wC x).length:=by rw[<-hr];rfl
   refine (za b1 (by rw[hrs];unfold cF;omega)).mono λ_ h2 b2=>ag.2 ⟨L,T,.refl,?_⟩;rw[hr] at b2;exact b2
  rw[By (by simpa using h9)];rw[By h9] at hl⊢;simp only[abY,aas,acW] at hl;have hlen:=qW hx;have hord:eH N k=tK (mV N) x:=by unfold eH;rw[hx]
  have J0:∀(c1 c2:UInt8),br x=(c1,c2)->Wp (fk (clW n) n (some (an t.tb)) (some (an bb)) k (some a) (ofBytes [c1,c2])) h λ_ h'=>∃L',o6 t N L'/\Ext L L'/\Bb h0 h' bb (l++([(br x).1]++Da (p6 N f) x true (eH N k)++[(br x).2])) (R++L'):=by
   intro c1 c2 hbr;rw[hbr];unfold fk;rw[ah,fE];refine⟨c1,by omega,rfl,?_⟩;refine BX c1 rfl b (by omega) λ_ h1 b1=>?_;refine b1.on λF z back=>?_;have z':Z h0 h1 ((F++R)++L):=by rw[acu];exact z
   rw[ah];refine (Gx G d fw.bd fw.ht (fw.sm d) hx n h1 (F++R) L (aga (f:=f) (by omega)) T z').mono λr h2 hr=>?_;obtain⟨be,L1,rfl,hbe,T1,E1,z2⟩:=hr;have b2:=back h2 (R++L1) (by rw[<-acu];exact z2);rw[ah];show Wp ((clW n).eV (some (an t.tb)) (some (an bb)) (some a) (ofBytes [c1,c2]) (arr be x.items.length) (x.items.length:Int) 0) h2 _;rw[<-hlen];refine (aes V nd (o:=eH N k) (λu hu=>by rw[hord] at hu;have:=kL hu;exact⟨this.1,this.2,λe=>by rw[d.map (aq hx) e];exact this.2⟩) (by omega) hI hHx (ofBytes [c1,c2]) n 0 h2 _ R L1 (by omega) (by omega) (by grind) hbe T1 b2).mono λ_ h3 hr=>?_;obtain⟨L2,T2,E2,b3⟩:=hr;rw[ah,fE];refine⟨c2,by omega,rfl,?_⟩;simp only[decide_true,afj] at b3;refine BX c2 rfl b3 (by grind) λ_ h4 b4=>ag.2 ⟨L2,T2,E1.trans E2,?_⟩;simp only[acu] at b4⊢;exact b4
  refine bt (ndz.KJ ?_);by_cases h10:x.kind=10
  .rw[AT (by simpa using h10)];refine bt (ndz.ldO ?_);cases ho:x.ord with
   |true=>rw[ZZ];exact J0 60 62 (by unfold br;rw[AT h10,ho];rfl)
   |false=>rw[aec];exact J0 123 125 (by unfold br;rw[AT h10,ho];rfl)
  .rw[By (by simpa using h10)];exact J0 91 93 (by unfold br;rw[By h10])
end
section
variable {α β:Type}{h h' h0:af}{L R:List bu}{N:List ak}{root:Int}{B:Nat}{Q:β->af->Prop}
theorem Xv {s:Sl}{root:Int}{N:List ak}(z:Z h0 h L)(G:kX h0 s N){B:Nat}(hB:Bd N B)(ht:∀x∈N,x.text.size<=65536){k n:Nat}(hn:k+4*B+65600<n)(hv:mM k N root=some 0){d:Int}{a:Bool}(hd:dep k N root=some (d,a)) :
  Wp (vo n (s,root)) h λx h'=>x=(d,a)/\Z h0 h' L:=by
 unfold vo;refine z.new λx0 h1 z _=>?_;refine z.fC 0 (ls:=[.sl,li]) (x:=(s,root)) ?_;rw[ah];refine (uZ z G hB ht hn hv).mono λy h2 hy=>?_;obtain⟨rfl,z⟩:=hy;rw[By (by simp)];refine z.fC 0 (ls:=[.sl,li]) (x:=(s,root)) ?_;rw[ah];refine (MF z G hB (k:=k) (by omega) (by omega) hd).mono λy h3 hy=>?_;obtain⟨rfl,z⟩:=hy;rw[ag];exact⟨rfl,z.drop⟩
theorem aet {s:Sl}{root:Int}{N:List ak}(z:Z h0 h L)(G:kX h0 s N){B:Nat}(hB:Bd N B)(ht:∀x∈N,x.text.size<=65536){k n:Nat}(hn:k+4*B+65600<n){r0:Int}(hv:mM k N root=some r0){d:Int}{a:Bool}(hd:r0=0->dep k N root=some (d,a)) :
  Wp (sG n (s,root)) h λx h'=>x=(if r0≠0 then 3 else if a then 0 else 14)/\Z h0 h' L:=by
 unfold sG;refine z.new λx0 h1 z _=>?_;refine z.fC 0 (ls:=[.sl,li]) (x:=(s,root)) ?_;rw[ah];refine (uZ z G hB ht hn hv).mono λy h2 hy=>?_;obtain⟨rfl,z⟩:=hy;by_cases h0':y=0
 .subst h0';rw[By (by simp),By (by simp)];refine z.fC 0 (ls:=[.sl,li]) (x:=(s,root)) ?_;rw[ah];refine (Xv z G hB ht hn hv (hd rfl)).mono λy h3 hy=>?_;obtain⟨rfl,z⟩:=hy;cases a
  .exact ag.2 ⟨rfl,z.drop⟩
  .exact ag.2 ⟨rfl,z.drop⟩
 .rw[AT (by simpa using h0'),AT h0'];exact ag.2 ⟨rfl,z.drop⟩
theorem Xw {m b:Nat}(hm:m<1073741824)(a0:Addr)(a1:θ) :
  ∀(n i:Nat) (h:af) (L:List bu),m-i<n->i<=m->Z h0 h (.au b ((List.replicate i (-1)++List.replicate (m-i) 0).map vi) av::L) ->
   Wp (oO n a0 a1 (arr b m) (m:Int) (i:Int)) h λ_ h'=>Z h0 h' (.au b ((List.replicate m (-1:Int)).map vi) av::L):=by
 intro n
 induction n with
 |zero=>intro i h L h1;omega
 |succ n ih=>
  intro i h L h1 h2 z;rw[BF];unfold uU;by_cases hi:i<m
  .rw[AT (by simp;omega)];refine G4 (b:=b) (n:=m) (by omega) (by omega) ?_;rw[IT,ac0];refine z.As 0 (xs:=List.replicate i (-1)++List.replicate (m-i) 0) (enc:=vi) (v:=(-1:Int)) (by simp;omega) (λh3 z=>?_);have hf:(List.replicate i (-1:Int)++List.replicate (m-i) 0).set i (-1)=List.replicate (i+1) (-1)++List.replicate (m-(i+1)) 0:=by
    rw[agz _ _ (by simp),aeD,agk,show m-i=(m-(i+1))+1 by omega,agc,afn,ahv (n:=i),acu];rfl
   rw[hf] at z;rw[vq h2 (by omega)];exact ih (i+1) h3 L (by omega) (by omega) z
  .rw[By (by simp;omega),ag];have:i=m:=by omega
   subst this;simpa using z
noncomputable def TH (N:List ak)(root:Int)(r0:Int)(a:Bool):ζ×Int:=
 if r0≠0 then (ofBytes [],3) else if a=false then (ofBytes [],14) else if 65536<(p6 N 100 root).length then (ofBytes [],6) else (ofBytes (p6 N 100 root),0)
def fuK:Nat:=fuW 100+80000
theorem Xx {s:Sl}(hw:WF h)(G:kX h s N)(fw:eK N){k:Nat}(hk:gK N.length 80<=k){r0:Int}(hc:mM k N root=some r0){d:Int}{a:Bool}(hd:r0=0->dep k N root=some (d,a))
  (hr:r0=0->a=true->∃H:Int->Nat,(∀u,H u<=60)/\∀u v,Edge N u v->H v<H u) {n:Nat} (hn:fuK<=n) (hn2:k+66000<n) :
  Wp (wx n (s,root)) h λr h'=>r=TH N root r0 a/\Fr (λ_=>False) h h':=by
 have hWn:fuW 100<=n:=abX (ahQ _ _) hn;have hl:=fw.len;unfold wx TH;refine (Z.start hw).new λx0 h1 z _=>?_;refine z.fC 0 (ls:=[.sl,li]) (x:=(s,root)) ?_;rw[ah];refine (aet z G fw.bd fw.ht (k:=k) (by omega) hc hd).mono λy h2 hy=>?_;obtain⟨rfl,z⟩:=hy;by_cases h0':r0=0
 .subst h0';rw[By (show ¬((0:Int)≠0) by simp),By (show ¬((0:Int)≠0) by simp)];cases a with
  |false=>exact ag.2 ⟨rfl,z.fr⟩
  |true=>
   rw[ZZ,By (by simp),By (by simp)];obtain⟨H,hH1,hH2⟩:=hr rfl rfl;have vd:Vd N root:=uq fw.bd.2.2 fw.bd.1 (by omega) hk hc;refine z.fC 0 (ls:=[.sl,li]) (x:=(s,root)) ?_;have hsl:s.len=N.length:=G.len;rw[ah];refine (of_wp (s:=s) (root:=root) z (by rw[hsl];unfold cF;omega)).mono λx4 h3 hx=>?_;obtain⟨tb,sb,rfl,z⟩:=hx;rw[hsl] at z;refine z.ld 2 (o:=0) (l:=.sl) (x:=s) ?_;rw[hsl];refine z.Mc (by omega) (by unfold cF;omega) λkb h4 z _=>?_;rw[IT] at z⊢;rw[oD (enc:=vi) (x:=(0:Int))] at z;have z0:Z h h4 (.au kb ((List.replicate 0 (-1)++List.replicate (N.length-0) 0).map vi) av::.au tb [aH s,vi root,aH (arr sb N.length)] dn::.au sb (List.replicate N.length aT) aQ::.au x0 [aH s,vi root] aj::[]):=by simpa using z
   rw[ah];refine (Xw (by omega) (an x0) (some (an tb)) n 0 h4 _ (by omega) (by omega) z0).mono λ_ h5 z=>?_;refine z.ld 3 (o:=1) (x:=root) ?_;rw[ah];have lw:=aer (h0:=h) (tb:=tb) (kb:=kb) (v1:=vi root) (v2:=aH (arr sb N.length)) vd fw hH2 G 100;have hLn:fuL 100<=n:=abX (by unfold fuL;decide) (abZ hWn);have h60:=hH1 root;have kok:Z9 (Dd N H) N.length (List.replicate N.length (-1)):=⟨by simp,λi v hv=>.inl (aep (aq hv))⟩;refine (lw n h5 root (List.replicate N.length (-1)) _ hLn vd.rt (by omega) kok IS z).mono λr h6 hr=>?_;obtain⟨rfl,K',_,z⟩:=hr;have hlen:Dd N H root=(p6 N 100 root).length:=by
    rw[GF vd _ _ vd.rt];exact Dc vd hH2 (H root) _ _ root (by omega) (by omega) vd.rt (aao _)
   rw[hlen];by_cases hbig:65536<(p6 N 100 root).length
   .rw[AT (by unfold tL;simp;omega),AT hbig];exact ag.2 ⟨rfl,z.fr⟩
   .rw[By (by unfold tL;simp;omega),By hbig];refine Rc z λbb h7 b=>?_;obtain⟨p,s',g,q1,q2,zz⟩:=id b;refine zz.ld 5 (o:=1) (x:=root) ?_;rw[ah];have tt:o6 ⟨tb,sb,s,root⟩ N [.au tb [aH s,vi root,aH (arr sb N.length)] dn,.au sb (List.replicate N.length aT) aQ,.au x0 [aH s,vi root] aj]:=Rb IS (BY _ IS);refine (Xu (h0:=h) (t:=⟨tb,sb,s,root⟩) (bb:=bb) vd fw hH2 G 100 n h7 root [] [.au kb (K'.map vi) av] _ hWn vd.rt (by omega) (by rw[acW];omega) tt b).mono λ_ h8 hr=>?_;obtain⟨L',_,_,b8⟩:=hr;rw[aeQ] at b8;rw[ah];exact (H4 b8 (by omega)).mono λr h9 hr=>ag.2 ⟨by rw[hr.1],hr.2.fr⟩
 .rw[AT h0',AT h0',AT (by simp)];exact ag.2 ⟨rfl,z.fr⟩
end
section
variable {N:List ak}{root:Int}{B:Nat}
theorem Kz {A:ε}:∀{xs:ε},(∀v∈xs,IR A.length v)->∃ys,Gk A xs=some ys
 |[],_=>⟨[],rfl⟩
 |x::xs,h=>by
  obtain⟨v,hv⟩:=ef (l:=A) rfl (h x IS);obtain⟨ys,hy⟩:=Kz (xs:=xs) λw hw=>h w (BY _ hw);exact⟨v::ys,by rw[Gk,hv,hy]⟩
theorem Xy {A:ε}:∀{ms:List Bool} {X:List ak},ms.length=X.length->mN X A.length->∃R,kN A ms X=some R
 |[],[],_,_=>⟨[],by rw[kN]⟩
 |b::ms,x::X,hl,hI=>by
  obtain⟨R,hR⟩:=Xy (ms:=ms) (X:=X) (by simpa using hl) λy hy=>hI y (BY _ hy);obtain⟨h1,h2⟩:=hI x IS;obtain⟨ks,hk⟩:=Kz (A:=A) h1;obtain⟨is,hi⟩:=Kz (A:=A) h2;rw[kN]
  grind
theorem KA {A:ε}:∀{ms:List Bool} {X R:List ak} {n:Nat},kN A ms X=some R->ms.length=X.length->∀(j:Nat) (y:ak),R[j]?=some y ->
  ∃(i:Nat) (x:ak),ms[i]?=some true/\X[i]?=some x/\(rA ms n)[i]?=some ((n+j:Nat):Int)/\y.kind=x.kind/\y.text=x.text/\y.ord=x.ord/\Gk A x.keys=some y.keys/\Gk A x.items=some y.items
 |[],[],R,n,h,_,j,y,hy=>by rw[kN] at h;cases h;simp at hy
 |b::ms,x::X,R,n,h,hl,j,y,hy=>by
  rw[kN] at h;cases b with
  |false=>
   rw[By (by simp)] at h;obtain⟨i,x',h1,h2,h3,h4⟩:=KA (n:=n) h (by simpa using hl) j y hy;exact⟨i+1,x',by simpa using h1,by simpa using h2,by rw[rA,By (by simp)];simpa using h3,h4⟩
  |true=>
   rw[AT rfl] at h;split at h
   .rename_i ks is r e1 e2 e3;cases h;cases j with
    |zero=>
     simp at hy;subst hy;exact⟨0,x,rfl,rfl,by rw[rA];rfl,rfl,rfl,rfl,e1,e2⟩
    |succ j=>
     obtain⟨i,x',h1,h2,h3,h4⟩:=KA (n:=n+1) e3 (by simpa using hl) j y (by simpa using hy);exact⟨i+1,x',by simpa using h1,by simpa using h2,by
      rw[rA,AT rfl,agJ,h3]
      congr 2;omega,h4⟩
   .cases h
theorem PB:∀{ms:List Bool} {n i:Nat} {v:Int},(rA ms n)[i]?=some v->(n:Int)<=v
 |[],n,i,v,h=>by rw[rA] at h;simp at h
 |b::ms,n,0,v,h=>by rw[rA] at h;simp at h;omega
 |b::ms,n,i+1,v,h=>by
  rw[rA] at h;have:=PB (ms:=ms) (by simpa using h);split at this<;>omega
theorem KB:∀{ms:List Bool} {n i j:Nat} {v:Int},ms[i]?=some true->ms[j]?=some true->(rA ms n)[i]?=some v->(rA ms n)[j]?=some v->i=j
 |[],n,i,j,v,h,_,_,_=>by simp at h
 |b::ms,n,0,0,v,_,_,_,_=>rfl
 |b::ms,n,0,j+1,v,h1,h2,h3,h4=>by
  simp at h1;subst h1;rw[rA] at h3 h4;simp at h3;subst h3;rw[AT rfl] at h4;have:=PB (ms:=ms) (n:=n+1) (i:=j) (by simpa using h4);omega
 |b::ms,n,i+1,0,v,h1,h2,h3,h4=>by
  simp at h2;subst h2;rw[rA] at h3 h4;simp at h4;subst h4;rw[AT rfl] at h3;have:=PB (ms:=ms) (n:=n+1) (i:=i) (by simpa using h3);omega
 |b::ms,n,i+1,j+1,v,h1,h2,h3,h4=>by
  rw[rA] at h3 h4;have:=KB (ms:=ms) (n:=if b=true then n+1 else n) (i:=i) (j:=j) (v:=v) (by simpa using h1) (by simpa using h2) (by simpa using h3) (by simpa using h4);omega
theorem aac {A:ε}{xs ys:ε}(h:Gk A xs=some ys){v:Int}(hv:v∈ys):∃w∈xs,gt A w=some v:=by
 obtain⟨i,hi⟩:=List.mem_iff_getElem?.1 hv;have hl:=vr h;have hlt:=(List.getElem?_eq_some_iff.1 hi).1;obtain⟨x,hx⟩:=fY (l:=xs) (i:=i) (by omega)
 grind [Kl,List.mem_of_getElem?]
theorem MW (d:Vd N root)(fw:eK N){k:Nat}(hk:gK N.length 80<=k){v:Int}(kv:KN N v):∃N' r,kept k N v=some (N',r)/\eK N'/\∃H:Int->Nat,(∀u,H u<=60)/\∀u w,Edge N' u w->H w<H u:=by
 obtain⟨H,hH1,hH2⟩:=d.Kq;have hvr:=kv.ir d.ix;have hcf:cf (List.replicate N.length false)=N.length:=by unfold cf;simp
 have hk1:N.length*(80+2)+1<=k:=by
  grind [gK,Nat.mul_le_mul_left,Nat.add_mul]
 obtain⟨ms,em,pm⟩:=(BQ (n:=N.length) (W:=λ_ u=>KN N u) d.ix fw.bd.2.2 (λt u w q e=>.step q e) k).1 v (List.replicate N.length false) (by simp) hvr (by rw[hcf];omega);have hml:ms.length=N.length:=by rw[pm.len];simp
 have hAl:(rA ms 0).length=N.length:=by rw[BN,hml]
 obtain⟨r,hr⟩:=ef (l:=rA ms 0) hAl hvr;obtain⟨R,hR⟩:=Xy (A:=rA ms 0) (ms:=ms) (X:=N) hml (by rw[hAl];exact d.ix);have hmark:∀u,gt ms u=some true->KN N u:=λu hu=>by
  rcases pm.snd 0 (λw hw=>by rw[hw];exact kv) (by rw[hcf];omega) u hu with h|⟨_,_,h⟩
  .have:=y8 h;cases this
  .exact h
 have hclo:∀u,gt ms u=some true->∀w,Edge N u w->gt ms w=some true:=λu hu w e=>by
  rcases pm.To u hu with h|h
  .have:=y8 h;cases this
  .exact h w e
 have inv:=λ(j:Nat) (y:ak)=>KA (n:=0) hR hml j y;refine⟨R,r,by unfold kept;rw[em];simp only;rw[hr,hR],⟨by have:=Kn hR;have:=fw.len;omega,λy hy=>?_,λy hy=>?_⟩,?_⟩
 .obtain⟨j,hj⟩:=List.mem_iff_getElem?.1 hy;obtain⟨i,x,_,hx,_,_,_,_,e1,e2⟩:=inv j y hj;rw[vr e1,vr e2];exact fw.map x (IN hx)
 .obtain⟨j,hj⟩:=List.mem_iff_getElem?.1 hy;obtain⟨i,x,_,hx,_,_,e,_⟩:=inv j y hj;rw[e];exact fw.txt x (IN hx)
 .have hex:∀j:Int,∃u:Int,(∃u',gt ms u'=some true/\gt (rA ms 0) u'=some j)->gt ms u=some true/\gt (rA ms 0) u=some j:=λj=>by
   by_cases h:∃u',gt ms u'=some true/\gt (rA ms 0) u'=some j
   .obtain⟨u,hu⟩:=h;exact⟨u,λ_=>hu⟩
   .exact⟨0,λq=>absurd q h⟩
  obtain⟨U,hU⟩:=ag5 hex;have uniq:∀u j,gt ms u=some true->gt (rA ms 0) u=some j->U j=u:=λu j h1 h2=>by
   obtain⟨h3,h4⟩:=hU j ⟨u,h1,h2⟩;have:=KB (aD h3).2 (aD h1).2 (aD h4).2 (aD h2).2;have a1:=(aD h3).1;have a2:=(aD h1).1;omega
  refine⟨λj=>H (U j),λu=>by grind [fw.len],λj w e=>?_⟩;obtain⟨y,hy,hw⟩:=e;obtain⟨hj0,hy2⟩:=aD hy;obtain⟨i,x,hm,hx,ha,_,_,_,e1,e2⟩:=inv j.toNat y hy2;have hgi:gt ms (i:Int)=some true:=by unfold gt;rw[AT (by omega),IT];exact hm
  have hgx:gt N (i:Int)=some x:=by unfold gt;rw[AT (by omega),IT];exact hx
  have hga:gt (rA ms 0) (i:Int)=some j:=by
   unfold gt;rw[AT (by omega),IT,ha];congr 1;omega
  have hu:=uniq _ _ hgi hga;have go:∃q,(q∈x.keys\/q∈x.items)/\gt (rA ms 0) q=some w:=by
   grind [aac]
  obtain⟨q,q1,q2⟩:=go;have eq:Edge N (i:Int) q:=⟨x,hgx,q1⟩
  grind
end
section
variable {N N':List ak}{root v r:Int}{B k:Nat}{A:ε}
theorem KC:∀{xs ys:ε},Gk A xs=some ys->ys=xs.map λu=>(gt A u).getD 0
 |[],ys,h=>by cases h;rfl
 |x::xs,ys,h=>by
  rw[Gk] at h;cases h1:gt A x with
  |none=>rw[h1] at h;cases h
  |some v=>
   cases h2:Gk A xs with
   |none=>rw[h1,h2] at h;cases h
   |some r=>
    rw[h1,h2] at h;cases h;rw[acw,<-KC h2,h1];rfl
theorem PC:∀{ms:List Bool} {X R:List ak} {n i:Nat} {x:ak},kN A ms X=some R->ms[i]?=some true->X[i]?=some x ->
  ∃(j:Nat) (y:ak),R[j]?=some y/\(rA ms n)[i]?=some ((n+j:Nat):Int)/\y.kind=x.kind/\y.text=x.text/\y.ord=x.ord/\Gk A x.keys=some y.keys/\Gk A x.items=some y.items
 |[],X,R,n,i,x,_,h,_=>by simp at h
 |b::ms,[],R,n,i,x,_,_,h=>by simp at h
 |b::ms,z::X,R,n,i,x,h,hm,hx=>by
  rw[kN] at h;cases b with
  |false=>
   rw[By (by simp)] at h;cases i with
   |zero=>simp at hm
   |succ i=>
    obtain⟨j,y,h1,h2,h3⟩:=PC (n:=n) h (by simpa using hm) (by simpa using hx);exact⟨j,y,h1,by rw[rA,By (by simp)];simpa using h2,h3⟩
  |true=>
   rw[AT rfl] at h;split at h
   .rename_i ks is R' e1 e2 e3;cases h;cases i with
    |zero=>
     simp at hx;subst hx;exact⟨0,_,rfl,by rw[rA];rfl,rfl,rfl,rfl,e1,e2⟩
    |succ i=>
     obtain⟨j,y,h1,h2,h3⟩:=PC (n:=n+1) e3 (by simpa using hm) (by simpa using hx);exact⟨j+1,y,by simpa using h1,by
      rw[rA,AT rfl,agJ,h2]
      congr 2;omega,h3⟩
   .cases h
theorem Xz (g:GV N root)(hB:∀x∈N,x.keys.length<=B/\x.items.length<=B)(hk:gK N.length B<=k)(hv:IR N.length v)(h:kept k N v=some (N',r)):∃φ,Ba N v N' φ/\φ v=r/\∀u x,fZ N v u->gt N u=some x->∃x',gt N' (φ u)=some x'/\x'.keys=x.keys.map φ/\x'.items=x.items.map φ:=by
 have hcf:cf (List.replicate N.length false)=N.length:=by unfold cf;simp
 have hk1:N.length*(B+2)+1<=k:=by
  grind [gK,Nat.mul_le_mul_left,Nat.add_mul]
 obtain⟨ms,em,pm⟩:=(BQ (n:=N.length) (W:=λ_ u=>fZ N v u) g.ix hB (λt u w q e=>.step q e) k).1 v (List.replicate N.length false) (by simp) hv (by rw[hcf];omega);have hml:ms.length=N.length:=by rw[pm.len];simp
 have hAl:(rA ms 0).length=N.length:=by rw[BN,hml]
 unfold kept at h;rw[em] at h;simp only at h;cases hr:gt (rA ms 0) v with
 |none=>rw[hr] at h;cases h
 |some r'=>
 cases hR:kN (rA ms 0) ms N with
 |none=>rw[hr,hR] at h;cases h
 |some R=>
 rw[hr,hR] at h;cases h;have mk:∀u,fZ N v u->gt ms u=some true:=λu w=>by
  induction w with
  |refl=>exact pm.at' _ rfl
  |step _ e ih=>
   rcases pm.To _ ih with q|q
   .have:=y8 q;cases this
   .exact q _ e
 have ka:∀u,gt ms u=some true->fZ N v u:=λu hu=>by
  rcases pm.snd 0 (λw hw=>by rw[hw];exact .refl) (by rw[hcf];omega) u hu with q|⟨_,_,q⟩
  .have:=y8 q;cases this
  .exact q
 have nd:∀u x,fZ N v u->gt N u=some x->∃x',gt N' ((gt (rA ms 0) u).getD 0)=some x'/\x'.kind=x.kind/\x'.text=x.text/\x'.ord=x.ord/\x'.keys=x.keys.map (λu=>(gt (rA ms 0) u).getD 0)/\x'.items=x.items.map λu=>(gt (rA ms 0) u).getD 0:=λu x hu hx=>by
  obtain⟨m0,m1⟩:=aD (mk u hu);obtain⟨j,y,h1,h2,h3,h4,h5,h6,h7⟩:=PC (n:=0) hR m1 (aD hx).2;have e:gt (rA ms 0) u=some (j:Int):=by unfold gt;rw[AT m0,h2];simp
  exact⟨y,by rw[e];show gt N' (j:Int)=_;unfold gt;grind,h3,h4,h5,KC h6,KC h7⟩
 refine⟨λu=>(gt (rA ms 0) u).getD 0,⟨λu x hu hx=>?_,λu w hu hw e=>?_,λw hw=>?_,Kn hR⟩,by simp only;rw[hr];rfl,λu x hu hx=>?_⟩
 .obtain⟨y,h1,h2,h3,h4,h5,h6⟩:=nd u x hu hx;refine⟨y,h1,h2,h3,h4,iota x.items.length,.refl _,λ_=>rfl,by grind [zy,gt,rA],?_⟩;by_cases hk10:x.kind=10
  .rw[AT hk10,<-g.tO (aq hx) hk10,h5];grind [zy,gt,rA]
  .rw[By hk10,h5,nA (g.fm x (aq hx)) hk10];rfl
 .obtain⟨a,ha⟩:=ef (l:=rA ms 0) hAl (hu.ir g.ix hv);obtain⟨b,hb⟩:=ef (l:=rA ms 0) hAl (hw.ir g.ix hv);simp only[ha,hb,aie] at e;subst e;have:=KB (aD (mk u hu)).2 (aD (mk w hw)).2 (aD ha).2 (aD hb).2;have h1:=(aD ha).1;have h2:=(aD hb).1;omega
 .obtain⟨y,hy⟩:=ef (l:=N') rfl hw;obtain⟨i,x,h1,_,h3,_⟩:=KA (n:=0) hR hml w.toNat y (aD hy).2;have e:gt (rA ms 0) (i:Int)=some w:=by
   unfold gt;rw[AT (by omega),IT,h3];congr 1;have:=hw.1;omega
  exact⟨(i:Int),ka _ (by unfold gt;grind),by grind⟩
 grind
end
section
variable {α β:Type}{h h' h0:af}{L R:List bu}{N:List ak}{root:Int}{B:Nat}{Q:β->af->Prop}
def KF:Nat:=7000
theorem eK.k0 (f:eK N):gK N.length 80<=KF:=by
 grind [f.len,Nat.mul_le_mul,gK,KF]
theorem eK.tot (f:eK N)(root:Int):∃r,mM KF N root=some r:=Pp f.bd.2.2 f.bd.1 (by omega) f.k0
theorem eK.dep (f:eK N)(h:mM KF N root=some 0):∃d a,dep KF N root=some (d,a):=by
 have d:=uq f.bd.2.2 f.bd.1 (by omega) f.k0 h;have hk:=f.k0;obtain⟨dd,a,e,_⟩:=WU (k:=KF) d.ix d.rt f.bd.2.2 d.le f.bd.1 (λv hv=>let ⟨_,_,w⟩:=d.wk v hv;w.MK) (by unfold gK at hk;rw[aen] at hk;omega);exact⟨dd,a,e⟩
noncomputable def gc (N:List ak)(root:Int):Int:=(mM KF N root).getD 3
noncomputable def gd (N:List ak)(root:Int):Bool:=((dep KF N root).map (·.2)).getD false
theorem eK.gc (f:eK N)(root:Int):mM KF N root=some (gc N root):=by
 obtain⟨r,e⟩:=f.tot root;unfold Sh.gc;rw[e];rfl
noncomputable def qZ (N:List ak)(root v:Int):ζ:=
 if gc N root=0 then (match kept KF N v with
  |some (N',r)=>(TH N' r (gc N' r) (gd N' r)).1
  |none=>ofBytes [])
 else ofBytes []
def XA:Nat:=fuK+1000
theorem Re {n:Nat}(h:XA<=n):fuK<=n/\KF+4*80+65600<n/\KF+66000<n:=by
 have h1:80000<=fuK:=Nat.le_add_left _ _;have h2:XA=fuK+1000:=rfl;have h3:KF=7000:=rfl
 grind
theorem aad {s:Sl}{node:Int}(z:Z h0 h L)(G:kX h0 s N)(fw:eK N){n:Nat}(hn:KF+4*80+65600<n)(hc:gc N root≠0):Wp (r9 n (s,root) node) h λx h'=>x=((nP,0),3)/\Z h0 h' L:=by
 unfold r9;refine z.new λx0 h1' z _=>z.new λx1 h2' z _=>?_;refine z.fC 1 (ls:=[.sl,li]) (x:=(s,root)) ?_;rw[ah];refine (uZ z G fw.bd fw.ht (k:=KF) hn (fw.gc root)).mono λy h3 hy=>?_;obtain⟨rfl,z⟩:=hy;rw[AT (by simpa using hc)];refine z.st 0 (cs':=[aT,vi 0]) λh4 z=>?_;refine z.fC 0 (ls:=[.sl,li]) (x:=(nP,0)) (ag.2 ⟨rfl,z.drop.drop⟩)
theorem Rf:eK []:=⟨by simp,by simp,by simp⟩
theorem aeu {s:Sl}(hs:s.len=0):kX h s []:=⟨[],0,rfl,rk.nil hs,by simp⟩
theorem TK {s:Sl}{v:Int}(z:Z h0 h L)(G:kX h0 s N)(fw:eK N)(kv:gc N root=0->KN N v)(hv:IR N.length v){n:Nat}(hn:XA<=n){f:ζ×Int->M β}(q:∀x h',x.1=qZ N root v->Z h0 h' L->Wp (f x) h' Q) :
  Wp (sh (r9 n (s,root) v) λx3=>sh (aM none aj [aT,vi 0]) λx4=>sh (bF (an x4) [aH x3.1.1,vi x3.1.2]) λ_=>sh (aN [.sl,li] (an x4)) λ(x6:Sl×Int)=>sh (wx n (x6.1,x6.2)) f) h Q:=by
 obtain⟨hn1,hn2,hn3⟩:=Re hn;unfold qZ at q;by_cases h0':gc N root=0
 .rw[AT h0'] at q;have hc:=fw.gc root;rw[h0'] at hc;have d:=uq fw.bd.2.2 fw.bd.1 (by omega) fw.k0 hc;obtain⟨N',r,ek,fw',H,hH1,hH2⟩:=MW d fw fw.k0 (kv h0');rw[ek] at q;simp only at q;rw[ah];refine (adO z G fw.bd fw.ht (k:=KF) hn2 hc hv.1 hv.2 ek).mono λx h1 hx=>?_;obtain⟨out,g,R,rfl,eR,z1⟩:=hx;refine z1.new λx4 h2 z2 _=>z2.st 0 (cs':=[aH out,vi r]) λh3 z3=>?_;refine z3.fC 0 (x:=((out,r):bS [.sl,li])) ?_;have Gs:kX h3 out N':=by rw[<-eR];exact adN z3.drop
  have hgd:gc N' r=0->∃d,dep KF N' r=some (d,gd N' r):=λe=>by
   have:=fw'.gc r;rw[e] at this;obtain⟨dd,a,e2⟩:=fw'.dep this;exact⟨dd,by unfold gd;rw[e2];rfl⟩
  obtain⟨dd,hdd⟩:∃dd,gc N' r=0->dep KF N' r=some (dd,gd N' r):=by
   by_cases e:gc N' r=0
   .obtain⟨dd,e2⟩:=hgd e;exact⟨dd,λ_=>e2⟩
   .exact⟨0,λq=>absurd q e⟩
  refine z3.call (P:=λx _=>x=TH N' r (gc N' r) (gd N' r)) (Xx z3.wf Gs fw' (k:=KF) fw'.k0 (fw'.gc r) hdd (λ_ _=>⟨H,hH1,hH2⟩) hn1 hn3) λx h4 hx f4 z4=>?_;subst hx;exact q _ h4 rfl (z4.drop.drop.sub (agB _ _))
 .rw[By h0'] at q;rw[ah];refine (aad z G fw hn2 h0').mono λx h1 hx=>?_;obtain⟨rfl,z1⟩:=hx;refine z1.new λx4 h2 z2 _=>z2.st 0 (cs':=[aT,vi 0]) λh3 z3=>?_;refine z3.fC 0 (x:=((nP,0):bS [.sl,li])) ?_;have e3:mM KF [] 0=some 3:=rfl;refine z3.call (P:=λx _=>x=TH [] 0 3 false) (Xx z3.wf (aeu rfl) Rf (k:=KF) Rf.k0 e3 (d:=0) (a:=false) (λe=>by cases e) (λe=>by cases e) hn1 hn3) λx h4 hx f4 z4=>?_;subst hx;exact q _ h4 rfl z4.drop
theorem aae {s:Sl}{ks:Sl}{l:ε}(G:kX h0 s N)(fw:eK N)(ik:IL h0 ks l)(kv:gc N root=0->∀v∈l,KN N v)(hI:∀v∈l,IR N.length v)(hl:l.length<=80){x0:Nat}:∀(n i:Nat) (h:af) (out:Sl) (g:Nat),XA+(l.length-i)+1<=n->i<=l.length ->
  Z h0 h (.sl out 1 dV ((l.take i).map λv=>Value.string (qZ N root v)) g::.au x0 [aH s,vi root] aj::L) ->
  Wp (nz n (an x0) out ks (l.length:Int) (i:Int)) h λr h'=>∃g,Z h0 h' (.sl r 1 dV (l.map λv=>Value.string (qZ N root v)) g::.au x0 [aH s,vi root] aj::L):=by
 intro n
 induction n with
 |zero=>intro i h out g h1;omega
 |succ n ih=>
  intro i h out g h1 h2 z;rw[AX];unfold tG;by_cases hi:i<l.length
  .rw[AT (by simpa using hi)];obtain⟨v,hv⟩:=kW (l:=l) (v:=(i:Int)) (by omega) (by omega);refine (ik.fr z.fr).ix (by omega) (aD hv).2 λ_ _ c1=>c1.sy (l:=li) rfl rfl ?_;refine z.fC 1 (x:=((s,root):bS [.sl,li])) ?_;refine TK z G fw (λe=>kv e v (aq hv)) (hI v (aq hv)) (by omega) λx h1' hx z1=>?_;obtain⟨x1,x2⟩:=x;simp only at hx;subst hx;have hol:out.len=i:=by
    have o:rL h1' out 1 dV ((l.take i).map λv=>Value.string (qZ N root v)) g:=z1.get 0 rfl;have:=o.1
    grind
   refine Z.Px z1 0 rfl (by decide) rfl (by rw[hol];unfold cF;omega) λs' h2' g' _ z2 _=>?_;rw[vq (B:=80) (by omega) (by omega)];refine ih (i+1) h2' s' g' (by omega) (by omega) ?_;have tk:(l.take (i+1)).map (λv=>Value.string (qZ N root v))=(l.take i).map (λv=>Value.string (qZ N root v))++[Value.string (qZ N root v)]:=by
    have:=(aD hv).2
    grind [Int.toNat_natCast,List.take_add_one]
   rw[tk];exact z2
  .rw[By (by simpa using hi)];rw[agR (by omega)] at z;exact ag.2 ⟨g,z⟩
theorem Rh {s:Sl}{x:ak}{ks is:Sl}(z:Z h0 h L)(G:kX h0 s N)(fw:eK N)(hx:x∈N)(hI:mN N N.length)(ik:IL h0 ks x.keys){n:Nat}(hn:XA+100<=n) :
  Wp (uV n (s,root) (x.kind,x.text,x.ord,ks,is)) h λr h'=>∃g,Z h0 h' (.sl r 1 dV (x.keys.map λv=>Value.string (qZ N root v)) g::L):=by
 have hb:=(fw.map x hx).2;unfold uV;refine z.new λx0 h1 z _=>z.new λx1 h2 z _=>?_;refine z.ld 0 (o:=3) (l:=.sl) (x:=ks) ?_;have hl:ks.len=x.keys.length:=ik.len;rw[hl,ah];have z0:Z h0 h2 (.sl nP 1 dV ((x.keys.take 0).map λv=>Value.string (qZ N root v)) 0::.au x0 [aH s,vi root] aj::L):=by
  have:=(z.drop).add (Fr.refl z.wf) (o:=.sl nP 1 dV [] 0) rL.nil (.inl rfl);simpa using this
 refine (aae G fw ik (λ_ v hv=>.key hx hv) (hI x hx).1 hb n 0 h2 nP 0 (by omega) (by omega) z0).mono λr h3 hr=>ag.2 ?_;obtain⟨g,z3⟩:=hr;exact⟨g,z3.sub (List.Sublist.cons_cons _ (ag9 _ _))⟩
end
section
variable {N N':List ak}{root v:Int}{φ:Int->Int}{x x':ak}
theorem GG {F:Int->Nat}{x:ak}:∀l:ε,mW F x l=(l.map λk=>(if x.kind=10 then 1+F (nth x.keys k) else 0)+F (nth x.items k)).sum
 |[]=>rfl
 |k::l=>by rw[mW,GG l,acw,aib]
theorem zb (I:Ba N v N' φ)(g:GV N root)(hv:IR N.length v):∀(f:Nat) (u:Int),fZ N v u->lg N' f (φ u)=lg N f u
 |0,_,_=>rfl
 |f+1,u,hu=>by
  obtain⟨x,hx⟩:=ef (l:=N) rfl (I.ir g hv hu).1;obtain⟨x',hx',E⟩:=I.nd u x hu hx;unfold lg;rw[hx,hx'];simp only;have hil:=E.il;have eb:qY x'=qY x:=by unfold qY wC;rw[E.k,E.t,hil]
  rw[eb,hil]
  congr 1
  obtain⟨o,h1,_,h3,h4⟩:=E.e;have lo:o.length=x.items.length:=by rw[h1.length_eq,po]
  rw[<-H6 (x:=x) h1,GG,GG];have:=zy (ψ:=λk=>(if x.kind=10 then 1+lg N f (nth x.keys k) else 0)+lg N f (nth x.items k)) o;rw[lo] at this;rw[<-this]
  congr 1
  refine ahD λp hp=>?_;unfold iota at hp;obtain⟨i,hi,rfl⟩:=List.mem_map.1 hp;have hi:=List.mem_range.1 hi;obtain⟨a,ha⟩:=fY (l:=o) (i:=i) (by omega);have ham:a∈iota x.items.length:=h1.mem_iff.1 (IN ha);unfold iota at ham;obtain⟨j,hj,rfl⟩:=List.mem_map.1 ham;have hj:=List.mem_range.1 hj;obtain⟨p,hp⟩:=fY (l:=x.items) (i:=j) hj;have e1:nth x'.items (i:Int)=φ p:=iK (by grind [iK]);rw[iK ha,e1,iK hp,E.k,zb I g hv f p (hu.step ⟨x,hx,.inr (IN hp)⟩)]
  congr 1
  by_cases hk:x.kind=10
  .rw[AT hk,AT hk];obtain⟨k,hk2⟩:=fY (l:=x.keys) (i:=j) (by rw[g.tO (aq hx) hk];exact hj);have e2:nth x'.keys (i:Int)=φ k:=iK (by rw[h4,AT hk,abo,ha];simp[iK hk2]);rw[e2,iK hk2,zb I g hv f k (hu.step ⟨x,hx,.inl (IN hk2)⟩)]
  .rw[By hk,By hk]
theorem fZ.last {u w:Int}(h:fZ N u w):u=w\/∃p,fZ N u p/\Edge N p w:=by
 cases h with
 |refl=>exact .inl rfl
 |step r e=>exact .inr ⟨_,r,e⟩
section
variable (d:Vd N root)
include d
theorem Vd.down {H:Int->Nat}(hH:∀u v,KN N v->Edge N u v->H v<H u){u w:Int}(k:KN N u)(h:fZ N u w):KN N w/\H w<=H u:=by
 induction h with
 |refl=>exact⟨k,aao _⟩
 |step _ e ih=>exact⟨ih.1.step e,by have:=hH _ _ (ih.1.step e) e;omega⟩
theorem Vd.apart {i c c':Int}(e:Edge N i c)(e':Edge N i c')(k:KN N c)(k':KN N c')(hne:c≠c'){w:Int}(h:fZ N c w)(h':fZ N c' w):False:=by
 obtain⟨H,_,hH⟩:=d.Kq;have loop:∀{c:Int},Edge N i c->KN N c->¬fZ N c i:=λ{c} e k r=>by
  have h1:=hH i c k e;have h2:=(d.down hH k r).2;omega
 have one:∀{w p q:Int},KN N w->Edge N p w->Edge N q w->p=q:=λkw e1 e2=>(vt (d.one _ kw) e2).2 _ e1
 induction h with
 |refl=>
  rcases h'.last with q|⟨p,r,q⟩
  .exact hne q.symm
  grind
 |step r ed ih=>
  rename_i p w;have kw:KN N w:=(d.down hH k (r.step ed)).1;rcases h'.last with q|⟨p',r',q⟩
  .grind
  .rw[one kw q ed] at r';exact ih r'
end
theorem A7 {p q r:Nat->Bool}:∀(l:η),(∀i∈l,(p i=true->r i=true)/\(q i=true->r i=true)/\¬(p i=true/\q i=true))->l.countP p+l.countP q<=l.countP r
 |[],_=>by simp
 |i::l,h=>by
  have ih:=A7 l λj hj=>h j (BY _ hj)
  grind
noncomputable def cR (N:List ak)(u:Int):Nat:=open Classical in (List.range N.length).countP λi:Nat=>decide (fZ N u (i:Int))
theorem XB:∀(L:ε),(L.Pairwise λc c'=>∀w,¬(fZ N c w/\fZ N c' w))->(L.map (cR N)).sum<=open Classical in (List.range N.length).countP λi:Nat=>decide (∃c∈L,fZ N c (i:Int))
 |[],_=>by simp
 |c::L,h=>by
  rw[ag6] at h;have ih:=XB L h.2;rw[acw,aib];refine abX (Nat.add_le_add_left ih _) ?_;unfold cR;refine A7 _ λi _=>?_
  grind
theorem aaf (d:Vd N root){u:Int}{x:ak}(hx:gt N u=some x)(k:KN N u):((refs x).map (cR N)).sum+1<=cR N u:=by
 obtain⟨H,_,hH⟩:=d.Kq;have ed:∀c∈refs x,Edge N u c:=λc hc=>⟨x,hx,by grind [refs]⟩;have nd:(refs x).Nodup:=List.nodup_iff_count.2 λc=>by
  by_cases hc:c∈refs x
  .have h1:=d.one c (k.step (ed c hc));have h2:=sH (u:=c) (aq hx);rw[afl] at h1;omega
  .rw[List.count_eq_zero.2 hc];omega
 have h1:=XB (N:=N) (refs x) (nd.imp_of_mem λ{c c'} hc hc' hne w q=>d.apart (ed c hc) (ed c' hc') (k.step (ed c hc)) (k.step (ed c' hc')) hne q.1 q.2);have hu:=mT hx;have h2:(List.range N.length).countP (λi=>i==u.toNat)=1:=by
  have:=(agP (n:=N.length)).count (a:=u.toNat);rw[AT (List.mem_range.2 (show u.toNat<N.length by have:=hu.1;have:=hu.2;omega))] at this;exact this
 rw[<-h2];refine abX (Nat.add_le_add_right h1 _) ?_;unfold cR;refine A7 _ λi _=>?_;simp only[OF,beq_iff_eq];have e:i=u.toNat->(i:Int)=u:=λe=>by have:=hu.1;omega
 refine⟨λ⟨c,q1,q2⟩=>(fZ.one (ed c q1)).trans q2,λq=>by rw[e q];exact .refl,λ⟨⟨c,q1,q2⟩,q3⟩=>?_⟩;rw[e q3] at q2;have a1:=hH u c (k.step (ed c q1)) (ed c q1);have a2:=(d.down hH (k.step (ed c q1)) q2).2;omega
theorem KD (d:Vd N root)(fw:eK N):∀(f:Nat) (u:Int),KN N u->lg N f u<=400*cR N u
 |0,u,_=>agQ _
 |f+1,u,k=>by
  obtain⟨x,hx⟩:=ef (l:=N) rfl (k.ir d.ix);unfold lg;rw[hx];simp only;have hc:=aaf d hx k;have hxm:=aq hx;have hi:=(fw.map x hxm).1;have ht:=fw.txt x hxm;have hb:qY x<=310:=by
   grind [qY,H5]
  have kk:x.keys.length=(if x.kind=10 then x.items.length else 0):=by
   by_cases hk:x.kind=10
   .rw[AT hk,d.map hxm hk]
   .rw[By hk,d.keys hxm hk];rfl
  have sum:mW (lg N f) x (iota x.items.length)<=x.items.length+400*((refs x).map (cR N)).sum:=by
   have s1:∀l:ε,(∀a∈l,0<=a/\a<x.items.length)->mW (lg N f) x l<=l.length+400*((if x.kind=10 then (l.map λa=>cR N (nth x.keys a)).sum else 0)+(l.map λa=>cR N (nth x.items a)).sum):=by
    intro l
    induction l with
    |nil=>intro _;simp[mW]
    |cons a l ih=>
     intro h;have ih:=ih λb hb=>h b (BY _ hb);obtain⟨a1,a2⟩:=h a IS;have q1:=KD d fw f (nth x.items a) (k.step ⟨x,hx,.inr (gS a1 a2)⟩);rw[mW];simp only[acw,aib,aas];by_cases hk:x.kind=10
     .have q2:=KD d fw f (nth x.keys a) (k.step ⟨x,hx,.inl (gS a1 (by rw[d.map hxm hk];exact a2))⟩)
      grind
     grind
   have s2:=s1 (iota x.items.length) (sq _).2;rw[po] at s2
   grind [Nat.le_trans,refs,iota,cR,nth,zy]
  omega
theorem agd (u:Int):cR N u<=N.length:=by
 grind [cR,Nat.le_trans,List.countP_le_length]
theorem eK.gv (f:eK N):Sh.gc N root=0↔GV N root:=Po f.bd.2.2 f.bd.1 (by omega) f.k0 (f.gc root)
theorem eK.vdg (f:eK N)(h:Sh.gc N root=0):Vd N root:=uq f.bd.2.2 f.bd.1 (by omega) f.k0 (by rw[f.gc root,h])
theorem TM (fw:eK N)(h0:Sh.gc N root=0)(kv:KN N v):∃N' r φ,kept KF N v=some (N',r)/\Ba N v N' φ/\φ v=r/\GV N' r/\eK N'/\qZ N root v=ofBytes (p6 N' 100 r):=by
 have d:=fw.vdg h0;have g:=fw.gv.1 h0;have hv:=kv.ir d.ix;obtain⟨N',r,ek,fw',H,hH1,hH2⟩:=MW d fw fw.k0 kv;obtain⟨φ,I,hφ,_⟩:=Xz g fw.bd.2.2 fw.k0 hv ek;have g':=I.gv g d hv;rw[hφ] at g';have h0':=fw'.gv.2 g';have d':=fw'.vdg h0';refine⟨N',r,φ,ek,I,hφ,g',fw',?_⟩;have hk:=fw'.k0;obtain⟨dd,a,ed,_,ha⟩:=WU (k:=KF) g'.ix g'.rt fw'.bd.2.2 g'.le fw'.bd.1 g'.MK (by grind [gK,Nat.add_mul]);have ha:a=true:=ha.2 λu w e q=>by
  have h1:=hH2 u w e;have h2:∀z,fZ N' w z->H z<=H w:=λz r=>by
   induction r with
   |refl=>exact aao _
   |step _ e ih=>have:=hH2 _ _ e;omega
  have:=h2 u q;omega
 have hgd:gd N' r=true:=by unfold gd;rw[ed];exact ha
 have hlen:(p6 N' 100 r).length<=65536:=by
  rw[GF d' 100 r g'.rt,<-hφ,zb I g hv 100 v .refl];have h1:=KD d fw 100 v kv;have h2:=agd (N:=N) v;have:=fw.len;omega
 unfold qZ;rw[AT h0,ek];simp only;rw[h0',hgd];unfold TH
 grind
theorem XC (fw:eK N)(h0:Sh.gc N root=0)(kv:KN N v):(qZ N root v).size=lg N 100 v:=by
 obtain⟨N',r,φ,_,I,hφ,g',fw',e⟩:=TM fw h0 kv;have d:=fw.vdg h0;rw[e];show (p6 N' 100 r).toArray.size=_;rw[agY,GF (fw'.vdg (fw'.gv.2 g')) 100 r g'.rt,<-hφ];exact zb I (fw.gv.1 h0) (kv.ir d.ix) 100 v .refl
end
section
variable {α β:Type}{h h' h0:af}{L R:List bu}{N N2:List ak}{root:Int}{B:Nat}{Q:β->af->Prop}
theorem vx (a b:ζ):mX a b=true↔a=b:=⟨yr,λe=>by subst e;unfold mX;simp⟩
noncomputable def GM (N:List ak)(r:Int)(N2:List ak)(s:Int)(x y:ak):Option (List ζ):=
 open Classical in
 if x.kind≠y.kind\/x.text≠y.text\/x.ord≠y.ord\/x.items.length≠y.items.length then none
 else if x.keys.map (qZ N r)=y.keys.map (qZ N2 s) then some (x.keys.map (qZ N r)) else none
theorem aew (z:Z h0 h L){s:Sl}{T:List ζ}{g:Nat}(hm:bu.sl s 1 dV (T.map .string) g∈L){i:Nat}{t:ζ}(ht:T[i]?=some t){f:Addr->M β}(q:∀a g,Cl h a [.string t] g->Wp (f a) h Q):Wp (sh (aw s (i:Int) 1) f) h Q:=by
 have o:rL h s 1 dV (T.map .string) g:=(z.own _ hm).1;exact rk.UU (enc:=Value.string) o.B5 (by omega) (by simpa using ht) λa c=>q a g c
theorem XD (z:Z h0 h L){k l:Sl}{T U:List ζ}{g g':Nat}(hk:bu.sl k 1 dV (T.map .string) g∈L)(hl:bu.sl l 1 dV (U.map .string) g'∈L)(hlen:T.length=U.length)(hb:T.length<=80):∀(n i:Nat),T.length-i<n->i<=T.length ->
  Wp (ma n k l (T.length:Int) (i:Int)) h λr h'=>h'=h/\((r=.inl ()/\T.drop i=U.drop i)\/(r=.inr (nP,false)/\T.drop i≠U.drop i)):=by
 intro n
 induction n with
 |zero=>intro i h1;omega
 |succ n ih=>
  intro i h1 h2;rw[zX];unfold se;by_cases hi:i<T.length
  .rw[AT (by simpa using hi)];obtain⟨t,ht⟩:=fY (l:=T) hi;obtain⟨u,hu⟩:=fY (l:=U) (i:=i) (by omega);refine aew z hk ht λa ga ca=>aew z hl hu λb gb cb=>?_;refine ca.sy (l:=.str) rfl rfl (cb.sy (l:=.str) rfl rfl ?_);rw[drop_cons ht,drop_cons hu];by_cases he:t=u
   .rw[By (by simpa using (vx t u).2 he),vq (B:=80) (by omega) (by omega)];refine (ih (i+1) (by omega) (by omega)).mono λr h' hr=>?_
    simp_all
   .have hne:mX t u=false:=by
     grind [mX,absurd,vx]
    rw[AT (by rw[hne];rfl)];exact ag.2 ⟨rfl,.inr ⟨rfl,λe=>he (aia e).1⟩⟩
  .rw[By (by simpa using hi)];refine ag.2 ⟨rfl,.inl ⟨rfl,?_⟩⟩
   grind
theorem XE {s1 s2:Sl}{r1 r2 a b:Int}{x y:ak}(z:Z h0 h L)(G1:kX h0 s1 N)(G2:kX h0 s2 N2)(f1:eK N)(f2:eK N2)(i1:mN N N.length)(i2:mN N2 N2.length)
  (m1:x.keys.length=(if x.kind=10 then x.items.length else 0)) (m2:y.keys.length=(if y.kind=10 then y.items.length else 0)) (hx:gt N a=some x) (hy:gt N2 b=some y) {n:Nat} (hn:XA+200<=n) :
  Wp (vp n (s1,r1) (s2,r2) (a,b)) h λr h'=>match GM N r1 N2 r2 x y with
   |none=>r.2=false/\Z h0 h' L
   |some T=>r.2=true/\∃g,Z h0 h' (.sl r.1 1 dV (T.map .string) g::L):=by
 unfold vp;refine z.new λx0 h1 z _=>z.new λx1 h2 z _=>z.new λx2 h3 z _=>?_;refine z.eC (n:=16) [12,13] (by decide) (by simp) λkb h4 z=>?_;refine z.ld 4 (o:=0) (l:=.sl) (x:=s1) ?_;refine z.ld 2 (o:=0) (x:=a) ?_;refine G1.NW z (aD hx).1 (aD hx).2 λp ks is nd=>?_;refine (nd.fr z.fr).fC ?_;refine z.ld 3 (o:=0) (l:=.sl) (x:=s2) ?_;refine z.ld 2 (o:=1) (x:=b) ?_;refine G2.NW z (aD hy).1 (aD hy).2 λp' ks' is' nd'=>?_;refine (nd'.fr z.fr).fC ?_;refine z.newAt 0 λh5 z=>z.newAt 1 λh6 z=>?_;have z:Z h0 h6 (.au (kb+12) [vi 0,Value.string (ofBytes []),Value.bool false,aT,aT] az::.au (kb+13) [vi 0,Value.string (ofBytes []),Value.bool false,aT,aT] az::.au x2 [vi a,vi b] cC::.au x1 [aH s2,vi r2] aj::.au x0 [aH s1,vi r1] aj::L):=z;refine z.stC 0 (cs':=[vi x.kind,.string x.text,.bool x.ord,aH ks,aH is]) (λq hq=>?_) λh7 z=>?_
 .simp only[agu,abG,agx,ahO] at hq;rcases hq with rfl|rfl|rfl
  .exact z.nbO 0 3 rfl rfl (by decide)
  .exact z.nbO 0 2 rfl rfl (by decide)
  .obtain⟨g,c⟩:=nd'.cl;exact z.nb0 0 c rfl
 refine z.st 1 (cs':=[vi y.kind,.string y.text,.bool y.ord,aH ks',aH is']) λh8 z=>?_;have z:Z h0 h8 (.au (kb+12) [vi x.kind,.string x.text,.bool x.ord,aH ks,aH is] az::.au (kb+13) [vi y.kind,.string y.text,.bool y.ord,aH ks',aH is'] az::.au x2 [vi a,vi b] cC::.au x1 [aH s2,vi r2] aj::.au x0 [aH s1,vi r1] aj::L):=z;have no:∀{h},Z h0 h (.au (kb+12) [vi x.kind,.string x.text,.bool x.ord,aH ks,aH is] az::.au (kb+13) [vi y.kind,.string y.text,.bool y.ord,aH ks',aH is'] az::.au x2 [vi a,vi b] cC::.au x1 [aH s2,vi r2] aj::.au x0 [aH s1,vi r1] aj::L)->GM N r1 N2 r2 x y=none->Wp (AI (nP,false):M (Sl×Bool)) h λr h'=>match GM N r1 N2 r2 x y with
   |none=>r.2=false/\Z h0 h' L
   |some T=>r.2=true/\∃g,Z h0 h' (.sl r.1 1 dV (T.map .string) g::L):=λz e=>by
  rw[e];exact ag.2 ⟨rfl,z.drop.drop.drop.drop.drop⟩
 have b1:=(f1.map x (aq hx)).1;refine z.ld 0 (o:=0) (x:=x.kind) (z.ld 1 (o:=0) (x:=y.kind) ?_);by_cases c1:x.kind=y.kind
 .rw[By (by simpa using c1)];refine z.ld 0 (o:=1) (l:=.str) (x:=x.text) (z.ld 1 (o:=1) (l:=.str) (x:=y.text) ?_);by_cases c2:x.text=y.text
  .rw[By (by simpa using (vx _ _).2 c2)];refine z.ld 0 (o:=2) (l:=.bool) (x:=x.ord) (z.ld 1 (o:=2) (l:=.bool) (x:=y.ord) ?_);by_cases c3:x.ord=y.ord
   .rw[By (by rw[c3];cases y.ord<;>decide)];refine z.ld 0 (o:=4) (l:=.sl) (x:=is) (z.ld 1 (o:=4) (l:=.sl) (x:=is') ?_);rw[nd.items.len,nd'.items.len];by_cases c4:x.items.length=y.items.length
    .rw[By (by simp[c4])];unfold uW;refine z.fC 4 (x:=((s1,r1):bS [.sl,li])) ?_;refine z.fC 0 (x:=((x.kind,x.text,x.ord,ks,is):bS [li,.str,.bool,.sl,.sl])) ?_;refine z.fC 3 (x:=((s2,r2):bS [.sl,li])) ?_;refine z.fC 1 (x:=((y.kind,y.text,y.ord,ks',is'):bS [li,.str,.bool,.sl,.sl])) ?_;refine Gl (P:=λr h'=>∃g,Z h0 h' (.sl r 1 dV (x.keys.map λv=>Value.string (qZ N r1 v)) g::.au (kb+12) [vi x.kind,.string x.text,.bool x.ord,aH ks,aH is] az::.au (kb+13) [vi y.kind,.string y.text,.bool y.ord,aH ks',aH is'] az::.au x2 [vi a,vi b] cC::.au x1 [aH s2,vi r2] aj::.au x0 [aH s1,vi r1] aj::L)) (λq hq=>?_) (Rh z G1 f1 (aq hx) i1 nd.keys (by omega)) λk h9 hk=>?_
     .simp only[agu,abG,agx,ahO] at hq;rcases hq with rfl|rfl
      .exact⟨_,_,(z.get 3 rfl:LB _ x1 [aH s2,vi r2] aj),λr h' hp=>by obtain⟨g,zp⟩:=hp;exact (zp.get 4 rfl:LB _ x1 [aH s2,vi r2] aj)⟩
      .exact⟨_,_,(z.get 1 rfl:LB _ (kb+13) [vi y.kind,.string y.text,.bool y.ord,aH ks',aH is'] az),λr h' hp=>by obtain⟨g,zp⟩:=hp;exact (zp.get 2 rfl:LB _ (kb+13) [vi y.kind,.string y.text,.bool y.ord,aH ks',aH is'] az)⟩
     obtain⟨g,z9⟩:=hk;rw[ah];refine (Rh z9 G2 f2 (aq hy) i2 nd'.keys (by omega)).mono λl h10 hl=>?_;obtain⟨g',z10⟩:=hl;have hkl:k.len=x.keys.length:=by
      have o:rL h10 k 1 dV (x.keys.map λv=>Value.string (qZ N r1 v)) g:=z10.get 1 rfl;have:=o.1;simp at this;omega
     have hkk:x.keys.length=y.keys.length:=(by rw[m1,m2,c1,c4]);have e1:(x.keys.map λv=>Value.string (qZ N r1 v))=(x.keys.map (qZ N r1)).map Value.string:=(by rw[agT];rfl);have e2:(y.keys.map λv=>Value.string (qZ N2 r2 v))=(y.keys.map (qZ N2 r2)).map Value.string:=(by rw[agT];rfl);rw[e1,e2] at z10;rw[hkl,ah];have b2:=(f1.map x (aq hx)).2;have lp:=XD (T:=x.keys.map (qZ N r1)) (U:=y.keys.map (qZ N2 r2)) z10 (k:=k) (l:=l) (BY _ IS) IS (by simp[hkk]) (by simpa using b2) n 0 (by simp;omega) (by omega);rw[ac3] at lp;refine lp.mono λr h11 hr=>?_;obtain⟨rfl,hr⟩:=hr;rw[afj,afj] at hr;have hn0:¬(x.kind≠y.kind\/x.text≠y.text\/x.ord≠y.ord\/x.items.length≠y.items.length):=(by simp[c1,c2,c3,c4]);rcases hr with⟨rfl,e⟩|⟨rfl,e⟩
     .have em:GM N r1 N2 r2 x y=some (x.keys.map (qZ N r1)):=(by unfold GM;rw[By hn0,AT e]);rw[em];refine ag.2 ⟨rfl,g,z10.drop.sub (List.Sublist.cons_cons _ ?_)⟩;exact List.Sublist.cons _ (List.Sublist.cons _ (List.Sublist.cons _ (List.Sublist.cons _ (List.Sublist.cons _ (afe _)))))
     .have em:GM N r1 N2 r2 x y=none:=(by unfold GM;rw[By hn0,By e]);rw[em];exact ag.2 ⟨rfl,z10.drop.drop.drop.drop.drop.drop.drop⟩
    .rw[AT (by simp;omega)];exact no z (by unfold GM;rw[AT (by simp[c4])])
   .rw[AT (by cases hxo:x.ord<;>cases hyo:y.ord<;>simp_all)];exact no z (by unfold GM;rw[AT (by simp[c3])])
  .have hne:mX x.text y.text=false:=by
    cases hq:mX x.text y.text with
    |false=>rfl
    |true=>exact absurd ((vx _ _).1 hq) c2
   rw[AT (by rw[hne];rfl)];exact no z (by unfold GM;rw[AT (by simp[c2])])
 .rw[AT (by simpa using c1)];exact no z (by unfold GM;rw[AT (by simp[c1])])
end
section
variable {N N2:List ak}{r s:Int}
abbrev IP:=Int×Int
abbrev PT:=List (Int×ζ)
def T0 (T:List ζ)(i:Nat):Int×ζ:=match T[i]? with
 |some t=>(0,t)
 |none=>((i:Int),ofBytes [])
def PD (F:List IP->IP->Option (List IP×Option PT))(T:List ζ):Nat->ε->ε->List IP->Option (List IP×Option PT)
 |i,x::xs,y::ys,met=>match F met (x,y) with
  |none=>none
  |some (m',some p)=>some (m',some (T0 T i::p))
  |some (m',none)=>PD F T (i+1) xs ys m'
 |_,[],_,met=>some (met,none)
 |_,_::_,[],met=>some (met,none)
noncomputable def T4 (N:List ak)(r:Int)(N2:List ak)(s:Int):Nat->List IP->IP->Option (List IP×Option PT)
 |0,_,_=>none
 |f+1,met,q=>if q∈met then some (met,none) else match gt N q.1,gt N2 q.2 with
  |some x,some y=>match GM N r N2 s x y with
   |none=>some (q::met,some [])
   |some T=>PD (T4 N r N2 s f) T 0 x.items y.items (q::met)
  |_,_=>none
def MX (n m:Nat):List IP:=(List.range n).flatMap λ(i:Nat)=>(List.range m).map λ(j:Nat)=>(((i:Int),(j:Int)):IP)
theorem XF {n m:Nat}{q:IP}(h1:IR n q.1)(h2:IR m q.2):q∈MX n m:=by
 obtain⟨a,b⟩:=q;refine List.mem_flatMap.2 ⟨a.toNat,List.mem_range.2 (by have:=h1.1;have:=h1.2;simp only at *;omega),List.mem_map.2 ⟨b.toNat,List.mem_range.2 (by have:=h2.1;have:=h2.2;simp only at *;omega),?_⟩⟩;have:=h1.1;have:=h2.1
 grind
theorem XG (n m:Nat):(MX n m).length=n*m:=by
 unfold MX;rw[List.length_flatMap];simp only[ac3,List.length_range];rw[List.map_const',List.sum_replicate_nat,List.length_range]
def un (P met:List IP):Nat:=P.countP λq=>decide (q∉met)
theorem Ri {P met m':List IP}(h:∀u∈met,u∈m'):un P m'<=un P met:=by
 unfold un;exact List.countP_mono_left λq _ hq=>by
  grind
theorem Rj:∀{P met:List IP} {q:IP},q∈P->q∉met->un P (q::met)+1<=un P met
 |[],_,_,h,_=>by simp at h
 |p::P,met,q,h,hn=>by
  have base:∀P,un P (q::met)<=un P met:=λP=>Ri λu hu=>BY _ hu;unfold un at base⊢;rw[ahP,ahP];by_cases e:p=q
  .grind
  .have ih:=Rj (P:=P) (List.mem_of_ne_of_mem (λx=>e x.symm) h) hn;unfold un at ih
   grind
def wk (N:List ak):Int->η->Option Int
 |a,[]=>some a
 |a,i::π=>match gt N a with
  |none=>none
  |some x=>match x.items[i]? with
   |none=>none
   |some u=>wk N u π
def H7 (N:List ak)(r:Int)(N2:List ak)(s:Int)(q:IP)(m:List IP):Prop:=
 ∃x y T,gt N q.1=some x/\gt N2 q.2=some y/\GM N r N2 s x y=some T/\∀(i:Nat) (u v:Int),x.items[i]?=some u->y.items[i]?=some v->(u,v)∈m
theorem H7.mono {q:IP}{m m':List IP}(g:H7 N r N2 s q m)(h:∀u∈m,u∈m'):H7 N r N2 s q m':=by
 obtain⟨x,y,T,h1,h2,h3,h4⟩:=g;exact⟨x,y,T,h1,h2,h3,λi u v a b=>h _ (h4 i u v a b)⟩
def Bad (N:List ak)(r:Int)(N2:List ak)(s:Int)(q:IP)(π:η):Prop:=
 ∃a b x y,wk N q.1 π=some a/\wk N2 q.2 π=some b/\gt N a=some x/\gt N2 b=some y/\GM N r N2 s x y=none
def age (N:List ak)(r:Int)(N2:List ak)(s:Int)(met:List IP)(q:IP)(m':List IP)(res:Option PT):Prop:=
 (∀u∈met,u∈m')/\(∀u∈m',IR N.length u.1/\IR N2.length u.2\/u∈met)/\match res with
  |none=>q∈m'/\∀u∈m',u∈met\/H7 N r N2 s u m'
  |some _=>∃π,Bad N r N2 s q π
theorem Rk {x y:ak}{T:List ζ}(h:GM N r N2 s x y=some T):x.items.length=y.items.length/\T=x.keys.map (qZ N r):=by
 unfold GM at h
 grind
theorem MY {f:Nat}{P:List IP}(F:List IP->IP->Option (List IP×Option PT))(hF:∀met q,un P met<f->IR N.length q.1->IR N2.length q.2->∃m' res,F met q=some (m',res)/\age N r N2 s met q m' res){T:List ζ} :
  ∀(xs ys:ε) (i:Nat) (met:List IP),un P met<f->(∀v∈xs,IR N.length v)->(∀v∈ys,IR N2.length v)->∃m' res,PD F T i xs ys met=some (m',res)/\(∀u∈met,u∈m')/\(∀u∈m',IR N.length u.1/\IR N2.length u.2\/u∈met)/\match res with
   |none=>(∀(i:Nat) u v,xs[i]?=some u->ys[i]?=some v->(u,v)∈m')/\∀u∈m',u∈met\/H7 N r N2 s u m'
   |some _=>∃(i:Nat) (u v:Int) (π:η),xs[i]?=some u/\ys[i]?=some v/\Bad N r N2 s (u,v) π
 |[],ys,i,met,_,_,_=>⟨met,none,by unfold PD;rfl,λu h=>h,λu h=>.inr h,λi u v h=>by simp at h,λu h=>.inl h⟩
 |x::xs,[],i,met,_,_,_=>⟨met,none,by unfold PD;rfl,λu h=>h,λu h=>.inr h,λi u v _ h=>by simp at h,λu h=>.inl h⟩
 |x::xs,y::ys,i,met,hu,hx,hy=>by
  obtain⟨m1,r1,e1,s1,w1,t1⟩:=hF met (x,y) hu (hx x IS) (hy y IS);unfold PD;rw[e1];cases r1 with
  |some p=>
   obtain⟨π,b⟩:=t1;exact⟨m1,some (T0 T i::p),rfl,s1,w1,0,x,y,π,rfl,rfl,b⟩
  |none=>
   obtain⟨t1,g1⟩:=t1;obtain⟨m2,r2,e2,s2,w2,t2⟩:=MY F hF (T:=T) xs ys (i+1) m1 (agV (Ri s1) hu) (λv hv=>hx v (BY _ hv)) (λv hv=>hy v (BY _ hv));refine⟨m2,r2,e2,λu h=>s2 u (s1 u h),λu h=>?_,?_⟩
   .grind
   .cases r2 with
    |some p=>
     obtain⟨k,u,v,π,h1,h2,h3⟩:=t2;exact⟨k+1,u,v,π,by simpa using h1,by simpa using h2,h3⟩
    |none=>
     obtain⟨a,b⟩:=t2;refine⟨λk u v h1 h2=>?_,λu h=>?_⟩
     .grind
     .rcases b u h with q|q
      .rcases g1 u q with q2|q2
       .exact .inl q2
       .exact .inr (q2.mono s2)
      .exact .inr q
theorem MZ (i1:mN N N.length)(i2:mN N2 N2.length):∀(f:Nat) (met:List IP) (q:IP),un (MX N.length N2.length) met<f->IR N.length q.1->IR N2.length q.2->∃m' res,T4 N r N2 s f met q=some (m',res)/\age N r N2 s met q m' res
 |0,_,_,h,_,_=>by omega
 |f+1,met,q,h,h1,h2=>by
  unfold T4;by_cases hm:q∈met
  .rw[AT hm];exact⟨met,none,rfl,λu h=>h,λu h=>.inr h,hm,λu h=>.inl h⟩
  .rw[By hm];obtain⟨x,hx⟩:=ef (l:=N) rfl h1;obtain⟨y,hy⟩:=ef (l:=N2) rfl h2;rw[hx,hy];simp only;have hc:=Rj (XF h1 h2) hm;cases em:GM N r N2 s x y with
   |none=>
    refine⟨q::met,some [],rfl,λu h=>BY _ h,λu h=>?_,[],q.1,q.2,x,y,rfl,rfl,hx,hy,em⟩
    grind
   |some T=>
    simp only;obtain⟨m2,r2,e2,s2,w2,t2⟩:=MY (f:=f) (P:=MX N.length N2.length) (T4 N r N2 s f) (λmet q a b c=>MZ i1 i2 f met q a b c) (T:=T) x.items y.items 0 (q::met) (by omega) (i1 x (aq hx)).2 (i2 y (aq hy)).2;refine⟨m2,r2,e2,λu h=>s2 u (BY _ h),λu h=>?_,?_⟩
    .grind
    .cases r2 with
     |some p=>
      obtain⟨k,u,v,π,a1,a2,a,b,x',y',b1,b2,b3,b4,b5⟩:=t2;refine⟨k::π,a,b,x',y',?_,?_,b3,b4,b5⟩
      .grind [wk]
      grind [wk]
     |none=>
      obtain⟨a,b⟩:=t2;refine⟨s2 _ IS,λu h=>?_⟩;rcases b u h with q' | q'
      .rcases List.mem_cons.1 q' with rfl|h
       .exact .inr ⟨x,y,T,hx,hy,em,a⟩
       .exact .inl h
      .exact .inr q'
noncomputable def lbX (N:List ak)(r:Int)(x:ak):Int×ζ×Bool×Nat×List ζ:=(x.kind,x.text,x.ord,x.items.length,x.keys.map (qZ N r))
noncomputable def lb (N:List ak)(r:Int)(a:Int)(π:η):Option (Int×ζ×Bool×Nat×List ζ):=match wk N a π with
 |none=>none
 |some v=>(gt N v).map (lbX N r)
def Rl (N:List ak)(r a:Int)(N2:List ak)(s b:Int):Prop:=∀π,lb N r a π=lb N2 s b π
theorem Rl.refl {a:Int}:Rl N r a N r a:=λ_=>rfl
theorem Rl.symm {a b:Int}(h:Rl N r a N2 s b):Rl N2 s b N r a:=λπ=>(h π).symm
theorem Rl.trans {a b c t:Int}{N3:List ak}(h:Rl N r a N2 s b)(h':Rl N2 s b N3 t c):Rl N r a N3 t c:=λπ=>(h π).trans (h' π)
theorem XH {x y:ak}:(GM N r N2 s x y).isSome↔lbX N r x=lbX N2 s y:=by
 unfold GM lbX
 grind
theorem XI {m:List IP}(hm:∀u∈m,H7 N r N2 s u m):∀(π:η) (q:IP),q∈m->lb N r q.1 π=lb N2 s q.2 π
 |[],q,hq=>by
  obtain⟨x,y,T,h1,h2,h3,h4⟩:=hm q hq
  grind [lb,wk,XH]
 |i::π,q,hq=>by
  obtain⟨x,y,T,h1,h2,h3,h4⟩:=hm q hq;have hl:=(Rk h3).1;unfold lb wk;rw[h1,h2];simp only;by_cases hi:i<x.items.length
  .have e1:x.items[i]?=some x.items[i]:=abi hi;have e2:y.items[i]?=some (y.items[i]'(by omega)):=abi (by omega);rw[e1,e2];simp only;exact XI hm π (x.items[i],y.items[i]'(by omega)) (h4 i _ _ e1 e2)
  grind
def Rn:Nat:=1602
theorem aex (f1:eK N)(f2:eK N2)(met:List IP):un (MX N.length N2.length) met<Rn:=by
 have h1:un (MX N.length N2.length) met<=(MX N.length N2.length).length:=aiv;rw[XG] at h1;have:=f1.len;have:=f2.len;have h2:N.length*N2.length<=40*40:=ahl (by omega) (by omega);unfold Rn;omega
noncomputable def Hr (N:List ak)(r a:Int)(N2:List ak)(s b:Int):Option PT:=match T4 N r N2 s Rn [] (a,b) with
 |some (_,res)=>res
 |none=>none
theorem Ro (f1:eK N)(f2:eK N2)(i1:mN N N.length)(i2:mN N2 N2.length){a b:Int}(ha:IR N.length a)(hb:IR N2.length b):∃m',T4 N r N2 s Rn [] (a,b)=some (m',Hr N r a N2 s b)/\(Hr N r a N2 s b=none↔Rl N r a N2 s b):=by
 obtain⟨m',res,e,o1,o2,o3⟩:=MZ (r:=r) (s:=s) i1 i2 Rn [] (a,b) (aex f1 f2 _) ha hb;have er:Hr N r a N2 s b=res:=by unfold Hr;rw[e]
 refine⟨m',by rw[er];exact e,?_⟩;rw[er];cases res with
 |none=>
  refine⟨λ_ π=>XI (m:=m') (λu hu=>?_) π (a,b) o3.1,λ_=>rfl⟩;rcases o3.2 u hu with h|h
  .cases h
  .exact h
 |some p=>
  refine⟨λh=>(nomatch h),λh=>?_⟩;obtain⟨π,a',b',x,y,h1,h2,h3,h4,h5⟩:=o3;have:=h π
  grind [lb,Option.some.injEq,XH]
end
section
variable {α β:Type}{h h' h0:af}{L R:List bu}{Q:β->af->Prop}
def T5 (p:Int×ζ):δ:=[vi p.1,.string p.2]
def B6 (p:PT):δ:=p.flatMap T5
theorem zE (p:PT):(B6 p).length=p.length*2:=by
 induction p with
 |nil=>rfl
 |cons a p ih=>grind [T5,B6,List.length_append,List.length_cons]
theorem aag (p q:PT):B6 (p++q)=B6 p++B6 q:=agL
def PA (a:Sl)(p:PT)(o:bu):Prop:=(p=[]/\a=nP/\o=.sl nP 2 aE [] 0)\/∃F g,o=.UY F 2 aE g/\(a,B6 p)∈F/\∀x∈F,x.2.length<=(B6 p).length
theorem PA.nil:PA nP [] (.sl nP 2 aE [] 0):=.inl ⟨rfl,rfl,rfl⟩
theorem ab1 {o o':bu}(z:Z h0 h (o'::L))(hk:o'.ok h->o.ok h)(hg:o.dY=o'.dY\/o.dY=0):Z h0 h (o::L):=by
 obtain⟨h1,h2⟩:=List.pairwise_cons.1 z.sP;refine⟨z.IV,z.fr,λx hx=>?_,List.pairwise_cons.2 ⟨λx hx he=>?_,h2⟩⟩
 .rcases List.mem_cons.1 hx with rfl|hx
  .obtain⟨a,b⟩:=z.own o' IS
   grind
  .exact z.own x (BY _ hx)
 grind
theorem NQ.one {s:Sl}{sz:Nat}{e:κ}{cs:δ}{g:Nat}(o:rL h s sz e cs g)(hn:s.len≠0)(hc:s.cap=0):NQ h [(s,cs)] sz e g:=by
 obtain⟨h1,h2⟩:=o;rcases h2 with⟨rfl,_⟩|⟨a,b,_,bl,base,c,d,_⟩
 .exact absurd rfl hn
 .exact⟨a,b,base,λx hx=>by grind⟩
theorem PA.app {a:Sl}{p:PT}{o:bu}(z:Z h0 h (o::L))(hp:PA a p o)(st:Int×ζ)(hb:p.length+1<=cF){ads:List θ}
  (ha:∀b,some b∈ads->∃cs g base e,h.get b.block=some (.cells cs g base e)/\(g=o.dY->g=0)) {f:Sl->M β}
  (q:∀s' h' o',PA s' (p++[st]) o'->Z h0 h' (o'::L)->(∀h2 L2,Z h0 h2 (o'::L2)->Z h0 h2 (o::L2))->Wp (f s') h' Q):Wp (sh (Ago.mY ads (Ago.app false a 2 aE 1 (T5 st))) f) h Q:=by
 rw[ah];have chg:∀{h':af},Fr (·=o.dY) h h'->∀b,some b∈ads->h'.get b.block=h.get b.block:=λfr b hb=>by
  obtain⟨cs,g,base,e,h1,h2⟩:=ha b hb;rw[h1];exact fr.cells _ _ _ _ _ h1 h2
 rcases hp with⟨rfl,rfl,rfl⟩|⟨F,g,rfl,hm,hmax⟩
 .refine yq (rL.app (z.get 0 rfl:rL h nP 2 aE [] 0) z.wf (by decide) rfl (by show 0+1<=cF;unfold cF;omega) λs' h' g' hl hc o hg fr=>?_);refine⟨chg fr,?_⟩;have hg:=hg.resolve_left λx=>x.2 rfl;have f0:Fr (λ_=>False) h h':=⟨fr.wf,fr.next,λj c g2 b e2 hj _=>fr.cells j c g2 b e2 hj λe3=>e3,λg2 h5 _=>fr.oV g2 h5 λe3=>e3,fr.used,fr.none,λj x hj _=>fr.maps j x hj (by omega)⟩
  have hl1:s'.len=1:=hl;have z2:Z h0 h' (.UY [(s',[]++T5 st)] 2 aE g'::L):=z.drop.add f0 (o:=.UY [(s',[]++T5 st)] 2 aE g') (NQ.one o (by omega) hc) (.inr (by simp only[bu.dY];omega));refine q s' h' _ (.inr ⟨_,_,rfl,?_,?_⟩) z2 λh2 L2 z3=>ab1 z3 (λ_=>rL.nil) (.inr rfl)
  .rw[aeQ,aeQ];exact List.mem_singleton.2 rfl
  .intro x hx;rw[afY] at hx;subst hx;exact aao _
 .have o:NQ h F 2 aE g:=z.get 0 rfl;have hal:(B6 p).length=a.len*2:=by obtain⟨_,_,base,hF⟩:=o;exact (hF _ hm).1
  rw[zE] at hal;refine yq (NQ.app o z.wf hm hmax (by decide) rfl (by omega) λs' h' hl o' fr=>?_);refine⟨chg fr,?_⟩;have z2:Z h0 h' (.UY ((s',B6 p++T5 st)::F) 2 aE g::L):=z.sr (i:=0) (o:=.UY F 2 aE g) (o':=.UY ((s',B6 p++T5 st)::F) 2 aE g) rfl (by have:=o.1;show g≠0;omega) fr o' (.inl rfl);have e1:B6 (p++[st])=B6 p++T5 st:=by rw[aag];show _++(T5 st++[])=_;rw[aeF]
  refine q s' h' _ (.inr ⟨_,_,rfl,by rw[e1];exact IS,?_⟩) z2 λh2 L2 z3=>ab1 z3 (λk=>?_) (.inl rfl)
  .grind
  .obtain⟨k1,k2,base,k3⟩:=k;exact⟨k1,k2,base,λx hx=>k3 x (BY _ hx)⟩
theorem XJ {s:Sl}{b:Addr}{sz:Nat}{e:κ}(hs:s.a=some b){Q:Sl->af->Prop}(q:Q s h):Wp (Ago.app false s sz e 0 []) h Q:=
 ⟨s,h,by unfold Ago.app s9;simp[hs],q⟩
theorem PA.copy {a:Sl}{p:PT}{o:bu}(z:Z h0 h (o::L))(hp:PA a p o)(hb:p.length<=cF){f:Sl->M β}
  (q:∀s' h' g',Z h0 h' (.sl s' 2 aE (B6 p) g'::o::L)->Wp (f s') h' Q):Wp (sh (aM none aE []) λx=>sh (Ago.GP a 2) λy=>sh (Ago.app false { a:=some (an x),len:=0,cap:=1 } 2 aE a.len y) f) h Q:=by
 rw[ah,Av];refine⟨rfl,?_⟩;have z1:=z.add (Fr.new (e:=aE) (cs:=[]) z.wf) (o:=.sl ⟨some ⟨h.next,0,none⟩,0,0+1⟩ 2 aE [] (h.next+1))
  ⟨by simp,.inr ⟨by omega,by simp[af.new,af.dA],.inr rfl,h.next,0,rfl,kO,by rw[af.new,vF];simp⟩⟩ (.inr (aam _))
 generalize h.next=b at z1⊢
 rw[ah,UM];by_cases hn:p=[]
 .subst hn;have h1:a.len=0/\aU (h.new aE []) a.a (a.len*2)=some []:=by
   rcases hp with⟨_,rfl,_⟩|⟨F,g,rfl,hm,_⟩
   .exact⟨rfl,rfl⟩
   .have o:NQ (h.new aE []) F 2 aE g:=z1.get 1 rfl;obtain⟨_,_,base,hF⟩:=o;obtain⟨e1,e2,bl,e3,e4⟩:=hF _ hm;have:a.len=0:=by grind [B6,List.length_nil]
    grind [aU,B6]
  refine⟨[],h1.2,?_⟩;rw[h1.1,ah];refine XJ rfl ?_;exact q _ _ _ z1
 .rcases hp with⟨e,_⟩|⟨F,g,rfl,hm,hmax⟩
  .exact absurd e hn
  .have o:NQ (h.new aE []) F 2 aE g:=z1.get 1 rfl;obtain⟨_,_,base,hF⟩:=o;obtain⟨e1,e2,bl,e3,e4⟩:=hF _ hm;simp only at e1 e2 e3 e4;have hl:a.len=p.length:=by rw[zE] at e1;omega
   refine⟨B6 p,?_,?_⟩
   .simp[aU,e3,e4,<-e1]
   .refine Z.Px z1 0 rfl (by grind) (by rw[e1]) (by rw[hl];show 0+_<=_;omega) λs' h' g' _ z2 _=>?_;exact q s' h' g' z2
end
section
variable {α β:Type}{h h' h0:af}{L R:List bu}{N N2:List ak}{Q:β->af->Prop}
structure SC where
 m:Nat
 x1:Nat
 x3:Nat
 a0:Nat
 a1:Nat
 s1:Sl
 r1:Int
 s2:Sl
 r2:Int
abbrev SC.fn (c:SC):ξ:=Value.func (Fn.func oA) #[] #[Value.pointer (some (an c.x1)),Value.pointer (some (an c.a0)),Value.pointer (some (an c.a1)),Value.pointer (some (an c.x3))]
def XK (c:SC)(fn:ξ->Option ξ)(k:Nat):List bu:=[.map c.m cC fn k,.au c.x1 [Value.map (some c.m)] nZ,.au c.x3 [c.fn] eI]
def X0 (a b:Int):ξ:=.agg #[vi a,vi b]
def TN (fn:ξ->Option ξ)(met:List IP):Prop:=∀a b:Int,fn (X0 a b)=if (a,b)∈met then some (.bool true) else none
theorem XL (a b c d:Int):wG (X0 a b) (X0 c d)=true↔(a,b)=(c,d):=by
 constructor
 .grind [II,X0]
 .intro e;cases e;unfold X0;simp[wG,yf,Bc,PI]
theorem TN.sr {fn:ξ->Option ξ}{met:List IP}(m:TN fn met)(a b:Int):TN (xM fn (X0 a b) (.bool true)) ((a,b)::met):=λc d=>by
 unfold xM;by_cases e:(c,d)=(a,b)
 .rw[AT ((XL _ _ _ _).2 e),AT (by rw[e];exact IS)]
 .rw[By (λx=>e ((XL _ _ _ _).1 x)),m c d]
  grind
def vR (c:SC)(h0:af)(res:Option PT)(p:PT)(o:bu)(X:List bu)(m':List IP)(r:Sl)(t:Bool)(h':af):Prop:=∃fn k,TN fn m'/\match res with
 |none=>t=false/\Z h0 h' (o::(XK c fn k++X))
 |some q=>t=true/\∃g,Z h0 h' (.sl r 2 aE (B6 (p++q)) g::o::(XK c fn k++X))
theorem vR.sub {c:SC}{res:Option PT}{p:PT}{o:bu}{X X':List bu}{m':List IP}{r:Sl}{t:Bool}(h:vR c h0 res p o X m' r t h')(hs:X'.Sublist X):vR c h0 res p o X' m' r t h':=by
 obtain⟨fn,k,m,w⟩:=h;refine⟨fn,k,m,?_⟩;cases res with
 |none=>exact⟨w.1,w.2.sub (List.Sublist.cons_cons _ (ahU (afe _) hs))⟩
 |some q=>
  obtain⟨w1,g,w2⟩:=w;exact⟨w1,g,w2.sub (List.Sublist.cons_cons _ (List.Sublist.cons_cons _ (ahU (afe _) hs)))⟩
def XM (f:Nat):Nat:=XA+300+f*100
def agf (h0:af)(c:SC)(N N2:List ak)(f:Nat):Prop:=∀(n:Nat) (h:af) (q:IP) (met m':List IP) (res:Option PT) (a:Sl) (p:PT) (o:bu) (fn:ξ->Option ξ) (k:Nat) (L:List bu),XM f<=n->T4 N c.r1 N2 c.r2 f met q=some (m',res)->TN fn met->PA a p o->p.length+f<=5000->Z h0 h (o::(XK c fn k++L)) ->
 Wp ((bA.at n).iB q a (an c.x1) (an c.a0) (an c.a1) (an c.x3)) h λr h'=>vR c h0 res p o L m' r.1 r.2 h'
theorem nbB {o:bu}(z:Z h0 h (o::L)){b:Addr}{vs:δ}{g:Nat}(c:Cl h b vs g)(hg:g<=h0.next):∃cs g base e,h.get b.block=some (.cells cs g base e)/\(g=o.dY->g=0):=by
 obtain⟨_,cs,base,e,h2,_⟩:=c;refine⟨cs,g,base,e,h2,λe1=>?_⟩;rcases (z.own o IS).2 with q|q<;>omega
theorem agh {o:bu}(z:Z h0 h (o::L)){b:Nat}{cs:δ}{e:κ}(hm:bu.au b cs e∈L):∃cs g base e,h.get b=some (.cells cs g base e)/\(g=o.dY->g=0):=by
 have l:LB h b cs e:=(z.own _ (BY _ hm)).1;refine⟨cs,b+1,0,e,l.get,λe1=>?_⟩;have:=(List.pairwise_cons.1 z.sP).1 _ hm (by show o.dY=b+1;omega);omega
theorem agi {c:SC}{f:Nat}(V:agf h0 c N N2 f)(G2:kX h0 c.s2 N2)(l1:LB h0 c.a1 [aH c.s2,vi c.r2] aj){q:IP}{x y:ak}{T:List ζ}(hT:T=[]\/T.length=x.items.length)(hy:gt N2 q.2=some y)(hxy:x.items.length=y.items.length)(hb:x.items.length<=80){is:Sl}(ix:IL h0 is x.items){pb:Nat}{nm:Sl}{a:Sl}{p:PT}{o:bu}(hp:PA a p o)(hpf:p.length+f<5000){gN:Nat} :
  ∀(n i:Nat) (h:af) (met m':List IP) (res:Option PT) (fn:ξ->Option ξ) (k:Nat),XM f+(x.items.length-i)+1<=n->i<=x.items.length->PD (T4 N c.r1 N2 c.r2 f) T i (x.items.drop i) (y.items.drop i) met=some (m',res)->TN fn met ->
   Z h0 h (o::(XK c fn k++(.sl nm 1 dV (T.map .string) gN::.au pb [vi q.1,vi q.2] cC::L))) ->
   Wp ((bA.at n).iJ a (an c.a1) (an c.x3) (an pb) nm is (x.items.length:Int) (i:Int)) h λr h'=>match r with
    |.inl _=>vR c h0 res p o L m' nP false h'
    |.inr v=>vR c h0 res p o L m' v.1 v.2 h':=by
 intro n
 induction n with
 |zero=>intro i h met m' res fn k h1;omega
 |succ n ih=>
  intro i h met m' res fn k h1 h2 hv hM z;show Wp (o5 (bA.at n) n a (an c.a1) (an c.x3) (an pb) nm is (x.items.length:Int) (i:Int)) h _;unfold o5;by_cases hi:i<x.items.length
  .rw[AT (by simpa using hi)];obtain⟨u,hu⟩:=kW (l:=x.items) (v:=(i:Int)) (by omega) (by omega);obtain⟨v,hv'⟩:=kW (l:=y.items) (v:=(i:Int)) (by omega) (by omega);rw[zA hu,zA hv'] at hv;unfold PD at hv;refine (ix.fr z.fr).ix (by omega) (aD hu).2 λ_ _ c1=>c1.sy (l:=li) rfl rfl ?_;refine z.new λsb h2' z _=>?_;have J:∀h3,Z h0 h3 (.au sb (T5 (T0 T i)) aE::o::(XK c fn k++(.sl nm 1 dV (T.map .string) gN::.au pb [vi q.1,vi q.2] cC::L))) ->
     Wp (gR (bA.at n) n a (an c.a1) (an c.x3) (an pb) nm (i:Int) u (an sb) is (x.items.length:Int) (i:Int)) h3 λr h'=>match r with
    |.inl _=>vR c h0 res p o L m' nP false h'
    |.inr v=>vR c h0 res p o L m' v.1 v.2 h':=by
    intro h3 z;unfold gR;refine z.ld 4 (o:=0) (l:=.raw) (x:=c.fn) ?_;have cA:∀{h},Z h0 h L->True:=λ_=>trivial;refine (LB.cl (l1.fr z.fr λx=>x)).ld (o:=0) (l:=.sl) (x:=c.s2) rfl rfl ?_;refine z.ld 6 (o:=1) (l:=li) (x:=q.2) ?_;refine G2.NW z (aD hy).1 (aD hy).2 λay ks' is' nd'=>?_;obtain⟨gy,cy⟩:=nd'.cl;refine (nd'.fr z.fr).Bz ?_;obtain⟨gi,ri⟩:=nd'.items;have hgi:gi<=h0.next:=by
     have hne:is'.len≠0:=(by have:=nd'.items.len;omega);obtain⟨_,_,_,cs,base,e,h2,_⟩:=ri.2.resolve_left hne;exact z.IV.dY _ _ _ _ _ h2
    refine (rk.fr ri z.fr λx=>x.elim).UU (enc:=vi) (by omega) (aD hv').2 λai ci=>ci.sy (l:=li) rfl rfl ?_;refine z.fC 0 (x:=(T0 T i:bS [li,.str])) ?_;have zd:=z.drop;refine PA.app zd hp (T0 T i) (by unfold cF;omega) (λb hb=>?_) λs' h4 o' hp' z4 back=>?_
    .simp only[agu,abG,agx,ahO] at hb;rcases hb with rfl|rfl|rfl|rfl|rfl
     .exact agh zd (ab3 _ (by unfold XK;exact BY _ (BY _ IS)))
     .exact nbB zd (LB.cl (l1.fr z.fr λx=>x)) (by have:=LB.lt l1 z.IV;show c.a1+1<=h0.next;omega)
     .exact agh zd (abW _ (BY _ IS))
     .have cy':=cy.fr z.fr λx=>x.elim;refine nbB zd (b:=ay) cy' ?_;obtain⟨_,cs,base,e,h2,_⟩:=cy;exact z.IV.dY _ _ _ _ _ h2
     .exact nbB zd ci hgi
    .rw[ah];unfold oj;rw[AT (by rfl),ah];refine kB (c:=((an c.x1,an c.a0,an c.a1,an c.x3):Addr×Addr×Addr×Addr)) rfl ?_;cases e1:T4 N c.r1 N2 c.r2 f met (u,v) with
     |none=>rw[e1] at hv;cases hv
     |some w=>
     obtain⟨m1,r1⟩:=w;rw[e1] at hv;refine (V n h4 (u,v) met m1 r1 s' (p++[T0 T i]) o' fn k _ (by omega) e1 hM hp' (by grind) z4).mono λr h5 hr=>?_;obtain⟨fn2,k2,hM2,hr⟩:=hr;cases r1 with
     |some pq=>
      simp only at hv hr;cases hv;obtain⟨ht,g,z5⟩:=hr;rw[AT (by simpa using ht)];refine ag.2 ?_;have z6:=z5.perm (List.Perm.swap _ _ _);have z7:=(back h5 _ z6).perm (List.Perm.swap _ _ _);rw[acu] at z7;exact vR.sub (X:=.sl nm 1 dV (T.map .string) gN::.au pb [vi q.1,vi q.2] cC::L) ⟨fn2,k2,hM2,rfl,g,z7⟩ (List.Sublist.cons _ (List.Sublist.cons _ (afe _)))
     |none=>
      simp only at hv hr;obtain⟨ht,z5⟩:=hr;rw[By (by rw[ht];simp),vq (B:=80) (by omega) (by omega)];exact ih (i+1) h5 m1 m' res fn2 k2 (by omega) (by omega) hv hM2 (back h5 _ z5)
   refine z.st 0 (cs':=[vi (i:Int),.string (ofBytes [])]) λh3 z=>?_;have nl:nm.len=T.length:=by
    have o:rL h3 nm 1 dV (T.map .string) gN:=z.get 5 rfl;have:=o.1;simp at this;omega
   by_cases hTn:T=[]
   .rw[By (by rw[nl,hTn];simp)];refine J h3 ?_;have:T0 T i=((i:Int),ofBytes []):=(by rw[hTn];rfl);rw[this];exact z
   .have hTl:=hT.resolve_left hTn;rw[AT (by rw[nl,hTl];simp;omega)];obtain⟨t,ht⟩:=fY (l:=T) (i:=i) (by omega);refine aew z (IN (i:=5) rfl) ht λat' g ct=>ct.sy (l:=.str) rfl rfl ?_;refine z.st 0 (cs':=[vi 0,.string t]) λh4 z=>?_;refine J h4 ?_;have:T0 T i=(0,t):=(by unfold T0;rw[ht]);rw[this];exact z
  .rw[By (by simpa using hi)];rw[abV (by omega)] at hv;unfold PD at hv;cases hv;refine ag.2 ?_;exact vR.sub (X:=.sl nm 1 dV (T.map .string) gN::.au pb [vi q.1,vi q.2] cC::L) ⟨fn,k,hM,rfl,z⟩ (List.Sublist.cons _ (List.Sublist.cons _ (afe _)))
end
section
variable {α β:Type}{h h' h0:af}{L R:List bu}{N N2:List ak}{Q:β->af->Prop}
theorem XN (f:Nat):XM (f+1)=XM f+100:=by unfold XM;omega
theorem XO (f:Nat):XA+300<=XM f:=by unfold XM;omega
def KsL (N:List ak):Prop:=∀x∈N,x.keys.length=(if x.kind=10 then x.items.length else 0)
theorem aah {c:SC}(G1:kX h0 c.s1 N)(G2:kX h0 c.s2 N2)(l0:LB h0 c.a0 [aH c.s1,vi c.r1] aj)(l1:LB h0 c.a1 [aH c.s2,vi c.r2] aj)(f1:eK N)(f2:eK N2)(i1:mN N N.length)(i2:mN N2 N2.length)(k1:KsL N)(k2:KsL N2):∀f,agf h0 c N N2 f:=by
 intro f
 induction f with
 |zero=>intro n h q met m' res a p o fn k L _ hv;cases hv
 |succ f ih=>
  intro n h q met m' res a p o fn k L hn hv hM hp hpf z;obtain⟨qa,qb⟩:=q;rw[XN] at hn;have hS:=XO f;obtain⟨n,rfl⟩:∃n',n=n'+1:=⟨n-1,by omega⟩;show Wp (sf (bA.at n) n (qa,qb) a (an c.x1) (an c.a0) (an c.a1) (an c.x3)) h _;unfold sf;refine z.new λx0 h1 z _=>?_;refine z.ld 3 (o:=0) (l:=.mp) (x:=some c.m) ?_;refine z.fC 0 (x:=((qa,qb):bS [li,li])) ?_;unfold T4 at hv;refine z.jy 2 (k:=X0 qa qb) rfl (λv e=>?_) (λe=>?_)
  .rw[hM qa qb] at e;split at e
   .rename_i hm;cases e;rw[AT hm] at hv;cases hv;refine⟨true,rfl,?_⟩;rw[AT rfl];exact ag.2 ⟨fn,k,hM,rfl,z.drop⟩
   .cases e
  .rw[hM qa qb] at e;split at e
   .cases e
   .rename_i hm;rw[By hm] at hv;rw[By (by simp)];refine z.ld 3 (o:=0) (l:=.mp) (x:=some c.m) ?_;refine z.fC 0 (x:=((qa,qb):bS [li,li])) ?_;refine z.nC 2 (k:=X0 qa qb) rfl λh2 k' z=>?_;have hM2:=hM.sr qa qb;have z:Z h0 h2 (.au x0 [vi qa,vi qb] cC::o::(XK c (xM fn (X0 qa qb) (.bool true)) k'++L)):=z;generalize xM fn (X0 qa qb) (.bool true)=fn2 at z hM2;refine (LB.cl (l0.fr z.fr λx=>x)).fC (x:=((c.s1,c.r1):bS [.sl,li])) rfl ?_;refine (LB.cl (l1.fr z.fr λx=>x)).fC (x:=((c.s2,c.r2):bS [.sl,li])) rfl ?_;refine z.fC 0 (x:=((qa,qb):bS [li,li])) ?_;cases hx:gt N qa with
    |none=>rw[hx] at hv;cases hv
    |some x=>
    cases hy:gt N2 qb with
    |none=>rw[hx,hy] at hv;cases hv
    |some y=>
    rw[hx,hy] at hv;simp only at hv;rw[ah];refine (XE z G1 G2 f1 f2 i1 i2 (k1 x (aq hx)) (k2 y (aq hy)) hx hy (n:=n) (by omega)).mono λr h3 hr=>?_;cases em:GM N c.r1 N2 c.r2 x y with
    |none=>
     rw[em] at hr hv;obtain⟨ht,z⟩:=hr;cases hv;rw[AT (by rw[ht];rfl)];refine PA.copy z.drop hp (by unfold cF;omega) λs' h4 g' z4=>ag.2 ?_;refine⟨fn2,k',hM2,rfl,g',?_⟩;rw[aeF];exact z4
    |some T=>
     rw[em] at hr hv;obtain⟨ht,g,z⟩:=hr;simp only at hv;obtain⟨hxy,eT⟩:=Rk em;rw[By (by rw[ht];simp)];refine (LB.cl (l0.fr z.fr λx=>x)).ld (o:=0) (l:=.sl) (x:=c.s1) rfl rfl ?_;refine z.ld 1 (o:=0) (l:=li) (x:=qa) ?_;refine G1.NW z (aD hx).1 (aD hx).2 λax ks is nd=>?_;refine (nd.fr z.fr).Bz ?_;rw[nd.items.len,ah];have z5:Z h0 h3 (o::(XK c fn2 k'++(.sl r.1 1 dV (T.map .string) g::.au x0 [vi qa,vi qb] cC::L))):=
      z.perm (show ([bu.sl r.1 1 dV (T.map .string) g,.au x0 [vi qa,vi qb] cC]++((o::XK c fn2 k')++L)).Perm ((o::XK c fn2 k')++([bu.sl r.1 1 dV (T.map .string) g,.au x0 [vi qa,vi qb] cC]++L)) from agW _ _ _)
     have hTl:T=[]\/T.length=x.items.length:=by
      have:=k1 x (aq hx)
      grind
     refine (agi (q:=(qa,qb)) (x:=x) (y:=y) (T:=T) ih G2 l1 hTl hy hxy (f1.map x (aq hx)).1 nd.items hp (by omega) n 0 h3 _ m' res fn2 k' (by have:=(f1.map x (aq hx)).1;omega) (agQ _) hv hM2 z5).mono λw h4 hw=>?_;cases w with
     |inl _=>exact ag.2 hw
     |inr v=>exact ag.2 hw
theorem agj {c0 c1:Nat}{s1 s2:Sl}{r1 r2:Int}(z:Z h0 h L)(G1:kX h s1 N)(G2:kX h s2 N2)(l0:LB h c0 [aH s1,vi r1] aj)(l1:LB h c1 [aH s2,vi r2] aj)(f1:eK N)(f2:eK N2)(i1:mN N N.length)(i2:mN N2 N2.length)(k1:KsL N)(k2:KsL N2)(e1:IR N.length r1)(e2:IR N2.length r2){n:Nat}(hn:XM Rn<=n) :
  Wp (pF n (an c0) (an c1)) h λr h'=>r.2.2=true/\Fr (λ_=>False) h h'/\match Hr N r1 r1 N2 r2 r2 with
   |none=>r.2.1=false
   |some q=>r.2.1=true/\∃g,rL h' r.1 2 aE (B6 q) g/\(g=0\/h.next<g):=by
 unfold pF;have z:=Z.start z.wf;refine z.afd λm h1 z=>z.new λx1 h2 z _=>z.st 0 (cs':=[Value.map (some m)]) λh3 z=>z.new λx3 h4 z _=>?_
 let c:SC:=⟨m,x1,x3,c0,c1,s1,r1,s2,r2⟩
 refine z.st 0 (cs':=[c.fn]) λh5 z=>?_;have z:Z h h5 ([.au x3 [c.fn] eI,.au x1 [Value.map (some m)] nZ,.map m cC (λ_=>none) 0]++[]):=z;refine z.ld 0 (o:=0) (l:=.raw) (x:=c.fn) ?_;refine (LB.cl (l0.fr z.fr λx=>x)).ld (o:=1) (l:=li) (x:=r1) rfl rfl ?_;refine (LB.cl (l1.fr z.fr λx=>x)).ld (o:=1) (l:=li) (x:=r2) rfl rfl ?_;have z:=Z.td (pre:=[_,_,_]) z [2,1,0] (by simp only[aas,acW];decide);have z:Z h h5 (XK c (λ_=>none) 0++[]):=z;have z6:=z.add (Fr.refl z.wf) (o:=.sl nP 2 aE [] 0) rL.nil (.inl rfl);unfold sk;rw[AT (by rfl),ah,ah];refine kB (c:=((an c.x1,an c.a0,an c.a1,an c.x3):Addr×Addr×Addr×Addr)) rfl ?_;obtain⟨m',er,_⟩:=Ro (r:=r1) (s:=r2) f1 f2 i1 i2 e1 e2;refine (aah (c:=c) G1 G2 l0 l1 f1 f2 i1 i2 k1 k2 Rn n h5 (r1,r2) [] m' _ nP [] _ (λ_=>none) 0 [] hn er (λa b=>by rw[By (by simp)]) PA.nil (by unfold Rn;simp) z6).mono λr h6 hr=>ag.2 ?_;obtain⟨fn,k,_,hr⟩:=hr;cases hq:Hr N r1 r1 N2 r2 r2 with
 |none=>
  rw[hq] at hr;exact⟨rfl,hr.2.fr,hr.1⟩
 |some q=>
  rw[hq] at hr;obtain⟨ht,g,z7⟩:=hr;have:=z7.own _ IS;exact⟨rfl,z7.fr,ht,g,this.1,this.2⟩
end
section
variable {α β:Type}{h h' h0:af}{L R:List bu}{N N2:List ak}{root:Int}{Q:β->af->Prop}
theorem wD (d:Vd N root)(f:eK N):eK (jN N root):=⟨by rw[qX d];exact f.len,λy hy=>by
 have:=(Z5 d f.bd).2.2 y hy;exact⟨this.2,this.1⟩,λy hy=>by
 rcases zB d hy with rfl|⟨x,hx,_,h2,_⟩
 .show (ofBytes []).size<=_;decide
 .rw[h2];exact f.txt x hx⟩
theorem eK.vd (f:eK N)(h:Sh.gc N root=0):Vd N root:=by
 have hc:=f.gc root;rw[h] at hc;exact uq f.bd.2.2 f.bd.1 (by omega) f.k0 hc
theorem ir0 {n m:Nat}{r:Int}(e:m=n)(h:IR n r):IR m 0:=by
 have:=h.1;have:=h.2;exact⟨by omega,by omega⟩
noncomputable def TO (N:List ak)(r:Int)(N2:List ak)(s:Int):Option PT:=Hr (jN N r) 0 0 (jN N2 s) 0 0
def SrR (N:List ak)(r:Int)(N2:List ak)(s:Int)(nx:Nat)(v:Sl×Bool×Bool)(h':af):Prop:=
 (gc N r=0/\gc N2 s=0->v.2.2=true/\match TO N r N2 s with
  |none=>v.2.1=false
  |some q=>v.2.1=true/\∃g,rL h' v.1 2 aE (B6 q) g/\(g=0\/nx<g))/\(¬(gc N r=0/\gc N2 s=0)->v=(nP,false,false))
def X1:Nat:=XM Rn+fuN
theorem Rp {n:Nat}(h:X1<=n):XM Rn<=n/\fuN<=n/\KF+66000<n:=by
 have h1:X1=XM Rn+fuN:=rfl;have h2:=XO Rn;have h3:=(Re (aao XA)).2.2
 grind
theorem SrR.mono {r s:Int}{n1 n2:Nat}{v:Sl×Bool×Bool}(x:SrR N r N2 s n2 v h')(h:n1<=n2):SrR N r N2 s n1 v h':=by
 refine⟨λhh=>?_,x.2⟩;obtain⟨a,b⟩:=x.1 hh
 grind
theorem H8 {s1 s2:Sl}{r1 r2:Int}(z:Z h0 h L)(G1:kX h0 s1 N)(G2:kX h0 s2 N2)(f1:eK N)(f2:eK N2){n:Nat}(hn:X1<=n) :
  Wp (oP n (s1,r1) (s2,r2)) h λv h'=>SrR N r1 N2 r2 h0.next v h'/\Fr (λ_=>False) h h':=by
 obtain⟨n1,n2,n3⟩:=Rp hn;have G1':=G1.fr z.fr;have G2':=G2.fr z.fr;have hle:=z.fr.next
 have z:=Z.start z.wf
 suffices hh:Wp (oP n (s1,r1) (s2,r2)) h λv h'=>SrR N r1 N2 r2 h.next v h'/\Fr (λ_=>False) h h' from hh.mono λv h' a=>⟨a.1.mono hle,a.2⟩
 unfold oP;refine z.new λx0 h1 z _=>z.new λx1 h2 z _=>?_;refine z.fC 1 (x:=((s1,r1):bS [.sl,li])) ?_;rw[ah];refine (CZ z G1' f1 f1.k0 (f1.gc r1) n2 n3).mono λy h3 hy=>?_;obtain⟨⟨o1,q1⟩,w1⟩:=y;by_cases c1:gc N r1=0
 .rw[AT c1] at hy;obtain⟨e1,e2,m1⟩:=hy;simp only at e1 e2 m1;subst e1;subst e2;refine m1.on λX z back=>?_;refine z.new λx4 h4 z _=>z.st 0 (cs':=[aH o1,vi 0]) λh5 z=>?_;have z:Z h h5 (.au x4 [aH o1,vi 0] aj::.au x1 [aH s2,vi r2] aj::.au x0 [aH s1,vi r1] aj::X):=z;refine z.fC 1 (x:=((s2,r2):bS [.sl,li])) ?_;rw[ah];refine (CZ z G2' f2 f2.k0 (f2.gc r2) n2 n3).mono λy h6 hy=>?_;obtain⟨⟨o2,q2⟩,w2⟩:=y;by_cases c2:gc N2 r2=0
  .rw[AT c2] at hy;obtain⟨e1,e2,m2⟩:=hy;simp only at e1 e2 m2;subst e1;subst e2;refine m2.on λX2 z back2=>?_;refine z.new λx8 h7 z _=>z.st 0 (cs':=[aH o2,vi 0]) λh8 z=>?_;have z:Z h h8 (.au x8 [aH o2,vi 0] aj::.au x4 [aH o1,vi 0] aj::.au x1 [aH s2,vi r2] aj::.au x0 [aH s1,vi r1] aj::(X++X2)):=by simpa using z
   rw[By (by simp),By (by simp)];have R1:kX h8 o1 (jN N r1):=(back h8 (.au x8 [aH o2,vi 0] aj::.au x4 [aH o1,vi 0] aj::.au x1 [aH s2,vi r2] aj::.au x0 [aH s1,vi r1] aj::X2) (z.perm (by
    show ([_,_,_,_]++(X++X2)).Perm (([_,_,_,_]++X2)++X)
    grind [List.append_assoc,List.Perm.append_left,List.perm_append_comm]))).read
   have R2:kX h8 o2 (jN N2 r2):=(back2 h8 (.au x8 [aH o2,vi 0] aj::.au x4 [aH o1,vi 0] aj::.au x1 [aH s2,vi r2] aj::.au x0 [aH s1,vi r1] aj::X) (by simpa using z)).read;have d1:=f1.vd c1;have d2:=f2.vd c2;have i1:=ir0 (qX d1) d1.rt;have i2:=ir0 (qX d2) d2.rt;refine (agj z R1 R2 (z.get 1 rfl:LB _ x4 [aH o1,vi 0] aj) (z.get 0 rfl:LB _ x8 [aH o2,vi 0] aj) (wD d1 f1) (wD d2 f2) (EW d1) (EW d2) (λy hy=>MQ d1 hy) (λy hy=>MQ d2 hy) i1 i2 n1).mono λv h9 hv=>?_;obtain⟨v1,v2,v3⟩:=hv;refine⟨⟨λ_=>⟨v1,?_⟩,λq=>absurd ⟨c1,c2⟩ q⟩,(z.pure v2).fr⟩;show match Hr (jN N r1) 0 0 (jN N2 r2) 0 0 with
    |none=>v.2.1=false
    |some q=>v.2.1=true/\∃g,rL h9 v.1 2 aE (B6 q) g/\(g=0\/h.next<g)
   grind [Hr,jN,id,z.fr.next]
  .rw[By c2] at hy;obtain⟨e1,z⟩:=hy;simp only at e1;subst e1;refine z.new λx8 h7 z _=>z.st 0 (cs':=[aH o2,vi q2]) λh8 z=>?_;rw[By (by simp),AT (by simp)];exact ag.2 ⟨⟨λq=>absurd q.2 c2,λ_=>rfl⟩,z.fr⟩
 .rw[By c1] at hy;obtain⟨e1,z⟩:=hy;simp only at e1;subst e1;refine z.new λx4 h4 z _=>z.st 0 (cs':=[aH o1,vi q1]) λh5 z=>?_;have z:Z h h5 (.au x4 [aH o1,vi q1] aj::.au x1 [aH s2,vi r2] aj::.au x0 [aH s1,vi r1] aj::[]):=z;refine z.fC 1 (x:=((s2,r2):bS [.sl,li])) ?_;rw[ah];refine (CZ z G2' f2 f2.k0 (f2.gc r2) n2 n3).mono λy h6 hy=>?_;obtain⟨⟨o2,q2⟩,w2⟩:=y;have hz:∃L,Z h h6 L:=by
   by_cases c2:gc N2 r2=0
   .rw[AT c2] at hy;exact⟨_,hy.2.2.z⟩
   .rw[By c2] at hy;exact⟨_,hy.2⟩
  obtain⟨L',z⟩:=hz;refine z.new λx8 h7 z _=>z.st 0 (cs':=[aH o2,vi q2]) λh8 z=>?_;rw[AT (by simp)];exact ag.2 ⟨⟨λq=>absurd q.1 c1,λ_=>rfl⟩,z.fr⟩
noncomputable def Rq (N:List ak)(r:Int)(N2:List ak)(s:Int):Bool:=@decide (gc N r=0/\gc N2 s=0/\Rl (jN N r) 0 0 (jN N2 s) 0 0) (Classical.propDecidable _)
theorem Rr {r s:Int}(f1:eK N)(f2:eK N2)(c1:gc N r=0)(c2:gc N2 s=0):TO N r N2 s=none↔Rl (jN N r) 0 0 (jN N2 s) 0 0:=by
 have d1:=f1.vd c1;have d2:=f2.vd c2;have i1:=ir0 (qX d1) d1.rt;have i2:=ir0 (qX d2) d2.rt;obtain⟨_,_,h⟩:=Ro (r:=0) (s:=0) (wD d1 f1) (wD d2 f2) (EW d1) (EW d2) i1 i2;exact h
theorem ze {s1 s2:Sl}{r1 r2:Int}(z:Z h0 h L)(G1:kX h0 s1 N)(G2:kX h0 s2 N2)(f1:eK N)(f2:eK N2){n:Nat}(hn:X1<=n) :
  Wp (ml n (s1,r1) (s2,r2)) h λv h'=>v=Rq N r1 N2 r2/\Fr (λ_=>False) h h':=by
 have G1:=G1.fr z.fr;have G2:=G2.fr z.fr;have z:=Z.start z.wf;unfold ml;refine z.new λx0 h1 z _=>z.new λx1 h2 z _=>?_;refine z.fC 1 (x:=((s1,r1):bS [.sl,li])) ?_;refine z.fC 0 (x:=((s2,r2):bS [.sl,li])) ?_;rw[ah];refine (H8 z G1 G2 f1 f2 hn).mono λv h3 hv=>?_;obtain⟨⟨a,b⟩,fr⟩:=hv;have fr:=(z.pure fr).fr;by_cases hc:gc N r1=0/\gc N2 r2=0
 .obtain⟨a1,a2⟩:=a hc;rw[AT a1];refine ag.2 ⟨?_,fr⟩
  grind [Rr,Rq,TO,decide_eq_true,Classical.propDecidable,decide_eq_false]
 .have:=b hc;subst this;rw[By (by simp)];refine ag.2 ⟨?_,fr⟩
  grind [Rq,decide_eq_false,Classical.propDecidable]
def FiR (N:List ak)(r:Int)(N2:List ak)(s:Int)(v:Sl×Bool)(h':af):Prop:=
 (gc N r=0/\gc N2 s=0->match TO N r N2 s with
  |none=>v.2=false
  |some q=>v.2=true/\∃g,rk h' v.1 2 (B6 q) g)/\(¬(gc N r=0/\gc N2 s=0)->v=(nP,false))
theorem M0 {s1 s2:Sl}{r1 r2:Int}(z:Z h0 h L)(G1:kX h0 s1 N)(G2:kX h0 s2 N2)(f1:eK N)(f2:eK N2){n:Nat}(hn:X1<=n) :
  Wp (sY n (s1,r1) (s2,r2)) h λv h'=>FiR N r1 N2 r2 v h'/\Fr (λ_=>False) h h':=by
 have G1:=G1.fr z.fr;have G2:=G2.fr z.fr;have z:=Z.start z.wf;unfold sY;refine z.new λx0 h1 z _=>z.new λx1 h2 z _=>?_;refine z.fC 1 (x:=((s1,r1):bS [.sl,li])) ?_;refine z.fC 0 (x:=((s2,r2):bS [.sl,li])) ?_;rw[ah];refine (H8 z G1 G2 f1 f2 hn).mono λv h3 hv=>ag.2 ?_;obtain⟨⟨a,b⟩,fr⟩:=hv;refine⟨⟨λhc=>?_,λhc=>?_⟩,(z.pure fr).fr⟩
 .obtain⟨a1,a2⟩:=a hc;cases hf:TO N r1 N2 r2 with
  |none=>rw[hf] at a2;exact a2
  |some q=>
   rw[hf] at a2;obtain⟨b1,g,b2,_⟩:=a2;exact⟨b1,g,b2.B5⟩
 .rw[b hc]
end
section
variable {N N2:List ak}{r i:Int}{x:ak}{t:ζ}
theorem fZ.head {u w:Int}(h:fZ N u w):u=w\/∃p,Edge N u p/\fZ N p w:=by
 induction h with
 |refl=>exact .inl rfl
 |step _ e ih=>
  rcases ih with rfl|⟨p,h1,h2⟩
  .exact .inr ⟨_,e,.refl⟩
  .exact .inr ⟨p,h1,h2.step e⟩
theorem KE {p:Nat}:∀{π:η} {a v w:Int} {x:ak},wk N a π=some v->gt N v=some x->x.items[p]?=some w->wk N a (π++[p])=some w
 |[],a,v,w,x,h,hx,hp=>by
  grind [wk]
 |q::π,a,v,w,x,h,hx,hp=>by
  rw[adx];unfold wk at h⊢;cases e:gt N a with
  |none=>rw[e] at h;cases h
  |some y=>
   rw[e] at h;simp only at h⊢;cases e2:y.items[q]? with
   |none=>rw[e2] at h;cases h
   |some u=>
    rw[e2] at h;simp only at h⊢;exact KE h hx hp
theorem EY {F G:Int->Nat}(h:∀u,F u<=G u):∀l:ε,mW F x l<=mW G x l
 |[]=>aao _
 |k::l=>by
  have ih:=EY h l
  grind [nth,mW]
theorem KG {F G:Int->Nat}(h:∀u,F u<=G u){a:Int}:∀{l:ε},a∈l->(F (nth x.items a)<G (nth x.items a)\/(x.kind=10/\F (nth x.keys a)<G (nth x.keys a)))->mW F x l<mW G x l
 |k::l,ha,hs=>by
  have h1:=h (nth x.keys k);have h2:=h (nth x.items k);unfold mW;rcases List.mem_cons.1 ha with rfl|ha
  .have ih:=EY (x:=x) h l
   grind
  .have ih:=KG h ha hs;split<;>omega
structure PE (N N2:List ak) (i:Int) (x:ak) (t:ζ):Prop where
 hx:gt N i=some x
 k:x.kind=5
 at2:gt N2 i=some { x with text:=t }
 ot:∀u,u≠i->gt N2 u=gt N u
 len:N2.length=N.length
 lt:(wC x).length<(wC { x with text:=t }).length
section
variable (L:PE N N2 i x t)(g:GV N r)
include L
theorem PE.ne:t≠x.text:=λe=>by
 have:=L.lt;subst e;exact Nat.lt_irrefl _ this
theorem PE.base:qY x<qY { x with text:=t }:=by
 unfold qY;simp only;rw[By (by rw[L.k];decide),By (by rw[L.k];decide),By (by rw[L.k];decide),By (by rw[L.k];decide)];exact L.lt
include g
theorem PE.leaf:x.keys=[]/\x.items=[]:=by
 have:=(Db (g.fm x (aq L.hx))).2.2.1 (by rw[L.k];decide);exact⟨nA (g.fm x (aq L.hx)) (by rw[L.k];decide),this⟩
theorem PE.node {u:Int}{y:ak}(h:gt N u=some y):∃y2,gt N2 u=some y2/\y2.kind=y.kind/\y2.ord=y.ord/\y2.keys=y.keys/\y2.items=y.items:=by
 by_cases e:u=i
 .subst e;rw[L.hx] at h;cases h;exact⟨_,L.at2,rfl,rfl,rfl,rfl⟩
 .exact⟨y,by rw[L.ot u e];exact h,rfl,rfl,rfl,rfl⟩
theorem PE.mono:∀(f:Nat) (u:Int),lg N f u<=lg N2 f u
 |0,_=>aao _
 |f+1,u=>by
  unfold lg;by_cases e:u=i
  .subst e;rw[L.hx,L.at2];simp only;have h1:=EY (x:=x) (PE.mono f) (iota x.items.length);have e2:mW (lg N2 f) { x with text:=t } (iota x.items.length)=mW (lg N2 f) x (iota x.items.length):=by rw[(L.leaf g).2];rfl
   rw[e2];have hb:=L.base;omega
  .rw[L.ot u e];cases gt N u with
   |none=>exact aao _
   |some y=>
    simp only;have:=EY (x:=y) (PE.mono f) (iota y.items.length);omega
theorem PE.strict {H:Int->Nat}(hH:∀u v,KN N v->Edge N u v->H v<H u):∀(f:Nat) (u:Int),H u<f->KN N u->fZ N u i->lg N f u<lg N2 f u
 |0,_,h,_,_=>by omega
 |f+1,u,hu,k,h=>by
  unfold lg;rcases h.head with rfl|⟨w,e,hw⟩
  .rw[L.hx,L.at2];simp only;have z1:∀(F:Int->Nat) (y:ak),mW F y (iota x.items.length)=0:=λF y=>by rw[(L.leaf g).2];rfl
   show _+mW _ _ (iota x.items.length)<_+mW _ _ (iota x.items.length);rw[z1,z1];exact L.base
  .obtain⟨y,hy,hm⟩:=id e;have hne:u≠i:=λq=>by
    subst q;rw[L.hx] at hy;cases hy;rw[(L.leaf g).1,(L.leaf g).2] at hm;rcases hm with hm|hm<;>cases hm
   rw[L.ot u hne,hy];simp only;have kw:=k.step e;have hlt:=hH u w kw e;have ih:=PE.strict hH f w (by omega) kw hw;have pos:∀{j:Nat},j<y.items.length->(j:Int)∈iota y.items.length:=λhj=>IN (qV hj);have hs:mW (lg N f) y (iota y.items.length)<mW (lg N2 f) y (iota y.items.length):=by
    rcases hm with hm|hm
    .obtain⟨j,hj⟩:=List.mem_iff_getElem?.1 hm;have hk:y.kind=10:=aeG λq=>(by rw[nA (g.fm y (aq hy)) q] at hm;cases hm);exact KG (L.mono g f) (pos (by rw[<-g.tO (aq hy) hk];exact aW hj)) (.inr ⟨hk,by rw[iK hj];exact ih⟩)
    .obtain⟨j,hj⟩:=List.mem_iff_getElem?.1 hm;exact KG (L.mono g f) (pos (aW hj)) (.inl (by rw[iK hj];exact ih))
   omega
theorem PE.cmp:∀(f:Nat) (a b:Int),¬fZ N a i->¬fZ N b i->Gv N f a b=Gv N2 f a b
 |0,_,_,_,_=>rfl
 |f+1,a,b,ha,hb=>by
  have na:a≠i:=λe=>ha (e▸.refl);have nb:b≠i:=λe=>hb (e▸.refl);unfold Gv Xh;rw[L.ot a na,L.ot b nb];cases ex:gt N a with
  |none=>rfl
  |some y=>
  cases ey:gt N b with
  |none=>rfl
  |some z=>
   simp only;refine xx (g.tO (aq ex)) (g.tO (aq ey)) λu v hu hv=>?_;have low:∀u,(u∈y.keys\/u∈y.items\/u∈z.keys\/u∈z.items)->¬fZ N u i:=λu hu q=>by
    rcases hu with h|h|h|h
    .exact ha ((fZ.one ⟨y,ex,.inl h⟩).trans q)
    .exact ha ((fZ.one ⟨y,ex,.inr h⟩).trans q)
    .exact hb ((fZ.one ⟨z,ey,.inl h⟩).trans q)
    .exact hb ((fZ.one ⟨z,ey,.inr h⟩).trans q)
   exact PE.cmp f u v (low u hu) (low v hv)
theorem PE.ord {w:Int}{y:ak}(hy:gt N w=some y)(hne:w≠i)(hk:∀k∈y.keys,¬fZ N k i):eH N2 w=eH N w:=by
 unfold eH;rw[L.ot w hne,hy];simp only;refine (A5 (g.tO (aq hy)) λu hu v hv=>?_).symm;unfold mV;rw[L.len];exact L.cmp g _ u v (hk u hu) (hk v hv)
end
end
section
variable {N N2:List ak}{r i:Int}{x:ak}{t:ζ}
section
variable (g:GV N r)(d:Vd N r)
include g d
theorem KN.ref {u:Int}(k:KN N u):∃p,Edge N p u:=by
 cases k with
 |key hx hv=>
  obtain⟨j,hj⟩:=List.mem_iff_getElem?.1 hx;exact⟨(j:Int),_,by unfold gt;grind,.inl hv⟩
 |step _ e=>exact⟨_,e⟩
theorem aey {u:Int}(h:fZ N r u)(k:KN N u):∃m y c,fZ N r m/\¬KN N m/\gt N m=some y/\c∈y.keys/\fZ N c u:=by
 induction h with
 |refl=>
  obtain⟨p,e⟩:=k.ref g d;exact absurd rfl (vt (d.one _ k) e).1
 |step h e ih=>
  rename_i p u;by_cases kp:KN N p
  .obtain⟨m,y,c,h1,h2,h3,h4,h5⟩:=ih kp;exact⟨m,y,c,h1,h2,h3,h4,h5.step e⟩
  .obtain⟨y,hy,hm⟩:=id e;refine⟨p,y,u,h,kp,hy,?_,.refl⟩;rcases hm with hm|hm
   .exact hm
   .exfalso;have c1:=d.one u k;have uniq:=(vt c1 e).2;cases k with
    |key hz hv=>
     rename_i z;obtain⟨j,hj⟩:=List.mem_iff_getElem?.1 hz;have hgj:gt N (j:Int)=some z:=(by unfold gt;grind);have:=uniq (j:Int) ⟨z,hgj,.inl hv⟩;subst this;rw[hgj] at hy;cases hy;have h2:=sH (u:=u) hz
     grind [refs,List.count_pos_iff]
    |step kq eq=>exact kp (by rw[<-uniq _ eq];exact kq)
theorem chain {k k' u:Int}(h:fZ N k u)(h':fZ N k' u)(kk:KN N k)(kk':KN N k'):fZ N k k'\/fZ N k' k:=by
 obtain⟨H,_,hH⟩:=d.Kq
 induction h with
 |refl=>exact .inr h'
 |step r e ih=>
  rename_i p w;rcases h'.last with rfl|⟨p',r',e'⟩
  .exact .inl (r.step e)
  .have kw:KN N w:=(d.down hH kk (r.step e)).1;rw[(vt (d.one _ kw) e).2 _ e'] at r';exact ih r'
theorem aai {m m' u c c':Int}{y y':ak}(hm:¬KN N m)(hm':¬KN N m')(hy:gt N m=some y)(hy':gt N m'=some y')(hc:c∈y.keys)(hc':c'∈y'.keys)(h:fZ N c u)(h':fZ N c' u):m=m':=by
 obtain⟨H,_,hH⟩:=d.Kq;have kc:KN N c:=.key (aq hy) hc;have kc':KN N c':=.key (aq hy') hc';have e:Edge N m c:=⟨y,hy,.inl hc⟩;have e':Edge N m' c':=⟨y',hy',.inl hc'⟩;have below:∀{a b m:Int},KN N a->KN N b->Edge N m b->¬KN N m->fZ N a b->a=b:=λ{a b m} ka kb em hn r=>by
  rcases r.last with q|⟨p,q1,q2⟩
  .exact q
  .have:=(vt (d.one _ kb) em).2 _ q2;subst this;exact absurd (d.down hH ka q1).1 hn
 have:c=c':=by
  grind [chain]
 subst this;exact (vt (d.one _ kc) e').2 _ e
end
theorem M4 {M:List ak}{ψ:Int->Int}{m:Int}{y z':ak}(gM:GV M r)(dM:Vd M r)(J:Ba M r (jN M r) ψ)(fn:eK (jN M r))(gn:Sh.gc (jN M r) 0=0)(hz:gt M m=some y)(hz':gt (jN M r) (ψ m)=some z')(nE:u4 ψ y z'){f:Nat}(hf:f=100) :
  ((z'.keys.map (qZ (jN M r) 0)).map ByteArray.size).sum=(y.keys.map (lg M f)).sum:=by
 obtain⟨l,hl1,hl2⟩:=nE.keys (gM.tO (aq hz)) (nA (gM.fm y (aq hz)));have e:(z'.keys.map (qZ (jN M r) 0)).map ByteArray.size=l.map (lg M f):=by
  rw[hl2,agT,agT];refine ahD λk hk=>?_;have hk2:=hl1.mem_iff.1 hk;have e1:=XC fn gn (.key (aq hz') (by rw[hl2];exact List.mem_map_of_mem hk):KN (jN M r) (ψ k));rw[<-hf,zb J gM dM.rt f k (gM.MK k ((KN.key (aq hz) hk2).ir gM.ix))] at e1;exact e1
 rw[e];exact (hl1.map (lg M f)).sum_nat
theorem XP {f:Nat}{c:Int}(le1:∀u,lg N f u<=lg N2 f u)(hc:lg N f c<lg N2 f c):∀{ks:ε},c∈ks->(ks.map (lg N f)).sum<(ks.map (lg N2 f)).sum
 |k::ks,h=>by
  have le:∀ks:ε,(ks.map (lg N f)).sum<=(ks.map (lg N2 f)).sum:=λks=>by
   induction ks with
   |nil=>exact aao _
   |cons k ks ih=>grind
  simp only[acw,aib];rcases List.mem_cons.1 h with rfl|h
  .have:=le ks;omega
  .have:=XP le1 hc h;have:=le1 k;omega
theorem aaj (f1:eK N)(f2:eK N2)(c1:Sh.gc N r=0)(c2:Sh.gc N2 r=0)(L:PE N N2 i x t):¬Rl (jN N r) 0 0 (jN N2 r) 0 0:=by
 intro E;have g:=f1.gv.1 c1;have d:=f1.vdg c1;have g2:=f2.gv.1 c2;have d2:=f2.vdg c2;obtain⟨φ,I,z1,s1⟩:=MS g d;obtain⟨φ2,I2,z2,s2⟩:=MS g2 d2;obtain⟨H,hH1,hH⟩:=d.Kq;have hi:IR N.length i:=mT L.hx;have leaf:=L.leaf g
 let Q:Int->Prop:=λu=>∃π,wk (jN N r) 0 π=some (φ u)/\wk (jN N2 r) 0 π=some (φ2 u)
 have q0:Q r:=⟨[],by unfold wk;rw[z1],by unfold wk;rw[z2]⟩;have qs:∀w y u,Q w->gt N w=some y->(∀k∈y.keys,¬fZ N k i)->u∈y.items->Q u:=λw y u ⟨π,h1,h2⟩ hy hk hu=>by
  have hne:w≠i:=λe=>by subst e;rw[L.hx] at hy;cases hy;rw[leaf.2] at hu;cases hu
  have hy2:gt N2 w=some y:=by rw[L.ot w hne];exact hy
  obtain⟨y',e1,e2,_⟩:=s1 w y hy;obtain⟨y2',e3,e4,_⟩:=s2 w y hy2;rw[L.ord g hy hne hk] at e4;obtain⟨j,hj⟩:=List.mem_iff_getElem?.1 hu;have hm:(j:Int)∈eH N w:=by
   unfold eH;rw[hy];exact (ur (mV N) y).mem_iff.2 (IN (qV (aW hj)))
  obtain⟨p,hp⟩:=List.mem_iff_getElem?.1 hm;refine⟨π++[p],KE h1 e1 ?_,KE h2 e3 ?_⟩
  .grind [iK]
  grind [iK]
 have lab:∀u,IR N.length u->Q u->∃y y2 y' y2',gt N u=some y/\gt N2 u=some y2/\gt (jN N r) (φ u)=some y'/\gt (jN N2 r) (φ2 u)=some y2'/\u4 φ y y'/\u4 φ2 y2 y2'/\lbX (jN N r) 0 y'=lbX (jN N2 r) 0 y2':=λu hu ⟨π,h1,h2⟩=>by
  obtain⟨y,hy⟩:=ef (l:=N) rfl hu;obtain⟨y2,hy2,_⟩:=L.node g hy;obtain⟨y',e1,n1⟩:=I.nd u y (g.MK u hu) hy;obtain⟨y2',e2,n2⟩:=I2.nd u y2 (g2.MK u (by rw[L.len];exact hu)) hy2;have:=E π;unfold lb at this
  simp_all
 by_cases ki:KN N i
 .obtain⟨m,y,c,hm,nm,hy,hc,hci⟩:=aey g d (g.MK i hi) ki;have qm:Q m:=by
   have:∀u,fZ N r u->¬KN N u->Q u\/Q m:=λu h=>by
    induction h with
    |refl=>exact λ_=>.inl q0
    |step h e ih=>
     rename_i w u;intro nu;have nw:¬KN N w:=λk=>nu (k.step e);rcases ih nw with q|q
     .by_cases hwm:w=m
      .exact .inr (hwm▸q)
      .obtain⟨yw,hyw,hmu⟩:=e;refine .inl (qs w yw u q hyw (λk hk hr=>hwm (aai g d nw nm hyw hy hk hc hr hci)) ?_);rcases hmu with hmu|hmu
       .exact absurd (.key (aq hyw) hmu) nu
       .exact hmu
     .exact .inr q
   exact (this m hm nm).elim id id
  obtain⟨y0,y2,y',y2',e1,e2,e3,e4,n1,n2,e⟩:=lab m (mT hy) qm;rw[hy] at e1;cases e1;have hne:m≠i:=λq=>nm (q▸ki);rw[L.ot m hne,hy] at e2;cases e2;unfold lbX at e;simp only[afr] at e;have hks:=e.2.2.2.2;have fn1:=wD d f1;have fn2:=wD d2 f2;have gn1:Sh.gc (jN N r) 0=0:=fn1.gv.2 (by have:=I.gv g d d.rt;rw[z1] at this;exact this);have gn2:Sh.gc (jN N2 r) 0=0:=fn2.gv.2 (by have:=I2.gv g2 d2 d2.rt;rw[z2] at this;exact this);obtain⟨f,hf⟩:∃f:Nat,f=100:=⟨_,rfl⟩;have a1:=M4 g d I fn1 gn1 hy e3 n1 hf;have a2:=M4 g2 d2 I2 fn2 gn2 (by rw[L.ot m hne];exact hy) e4 n2 hf;rw[hks,a2] at a1;have:=XP (L.mono g f) (L.strict g hH f c (by have:=hH1 c;have:=f1.len;omega) (.key (aq hy) hc) hci) hc;omega
 .have all:∀u,fZ N r u->¬KN N u->Q u:=λu h=>by
   induction h with
   |refl=>exact λ_=>q0
   |step h e ih=>
    rename_i w u;intro nu;have nw:¬KN N w:=λk=>nu (k.step e);obtain⟨yw,hyw,hmu⟩:=e;refine qs w yw u (ih nw) hyw (λk hk hr=>ki (d.down hH (.key (aq hyw) hk) hr).1) ?_;rcases hmu with hmu|hmu
    .exact absurd (.key (aq hyw) hmu) nu
    .exact hmu
  obtain⟨y0,y2,y',y2',e1,e2,e3,e4,n1,n2,e⟩:=lab i hi (all i (g.MK i hi) ki);rw[L.hx] at e1;cases e1;rw[L.at2] at e2;cases e2;unfold lbX at e;simp only[afr] at e;have:=e.2.1;rw[n1.t,n2.t] at this;exact L.ne this.symm
end
section
variable {α β:Type}{h h' h0:af}{L:List bu}{N:List ak}{Ng:Sl}{root:Int}{Q:β->af->Prop}
abbrev GB (b:Nat)(Ng:Sl)(root:Int):bu:=.au b [aH Ng,vi root] aj
theorem aez (G:kX h0 Ng N){x0:Nat}(hN:N.length<=40) :
  ∀(n i:Nat) (p q:Int) (h:af),N.length-i<n->i<=N.length->(∀(j:Nat) (x:ak),j<i->N[j]?=some x->x.text.size<=100/\x.keys.length<=80/\x.items.length<=80)->Z h0 h (GB x0 Ng root::L) ->
   Wp (fD n (an x0) p q (i:Int)) h λy h'=>(∀w,y=.inl w->∀(j:Nat) (x:ak),N[j]?=some x->x.text.size<=100/\x.keys.length<=80/\x.items.length<=80)/\(∀b,y=.inr b->b=false)/\Z h0 h' (GB x0 Ng root::L):=by
 intro n
 induction n with
 |zero=>intro i p q h h1;omega
 |succ n ih=>
  intro i p q h h1 h2 hf z;rw[vP];unfold nM;refine z.ld 0 (o:=0) (l:=.sl) (x:=Ng) ?_;rw[G.len];by_cases hi:i<N.length
  .rw[AT (by simp;omega)];obtain⟨x,hx⟩:=fY hi;refine z.ld 0 (o:=0) (l:=.sl) (x:=Ng) ?_;refine G.at z (by omega) (by simpa using hx) λa ks is nd ik ii=>nd.fC ?_;refine z.node λx2 h2' z=>?_;have fin:Wp (AI (Sum.inr false:(Int×Int)⊕Bool)) h2' λy h'=>(∀w,y=.inl w->∀(j:Nat) (x:ak),N[j]?=some x->x.text.size<=100/\x.keys.length<=80/\x.items.length<=80)/\(∀b,y=.inr b->b=false)/\Z h0 h' (GB x0 Ng root::L):=by
    rw[ag]
    grind [z.drop]
   refine z.ld 0 (o:=1) (l:=.str) (x:=x.text) ?_;by_cases c1:(100:Int)<x.text.size
   .rw[AT (by simpa using c1)];exact fin
   rw[By (by simpa using c1)];refine z.ld 0 (o:=3) (l:=.sl) (x:=ks) ?_;rw[ik.len];by_cases c2:(80:Int)<x.keys.length
   .rw[AT (by simpa using c2)];exact fin
   rw[By (by simpa using c2)];refine z.ld 0 (o:=4) (l:=.sl) (x:=is) ?_;rw[ii.len];by_cases c3:(80:Int)<x.items.length
   .rw[AT (by simpa using c3)];exact fin
   rw[By (by simpa using c3)];unfold kV;refine z.ld 0 (o:=3) (l:=.sl) (x:=ks) (z.ld 0 (o:=4) (l:=.sl) (x:=is) (z.ld 0 (o:=1) (l:=.str) (x:=x.text) ?_));rw[vq (B:=40) (by omega) (by omega)];refine ih (i+1) _ _ h2' (by omega) (by omega) (λj y hj hy=>?_) z.drop
   grind
  .rw[By (by simp;omega),ag]
   grind
theorem XQ (G:kX h0 Ng N)(z:Z h0 h L){n:Nat}(hn:50<n):Wp (oQ n (Ng,root)) h λy h'=>(y=true->eK N/\∀x∈N,x.text.size<=100)/\Z h0 h' L:=by
 unfold oQ;refine z.new λx0 h1 z _=>?_;refine z.ld 0 (o:=0) (l:=.sl) (x:=Ng) ?_;rw[G.len];by_cases c1:(40:Int)<N.length
 .rw[AT (by simpa using c1),ag];exact⟨λh=>(by cases h),z.drop⟩
 rw[By (by simpa using c1),ah];refine (aez G (by omega) n 0 0 0 h1 (by omega) (by omega) (λj x hj=>by omega) z).mono λy h2 hy=>?_;obtain⟨f1,f2,z⟩:=hy;cases y with
 |inl w=>
  have ft:∀x∈N,x.text.size<=100:=λx hx=>by obtain⟨j,hj⟩:=List.mem_iff_getElem?.1 hx;exact (f1 w rfl j x hj).1
  have fg:eK N/\∀x∈N,x.text.size<=100:=⟨⟨by omega,λx hx=>by
   obtain⟨j,hj⟩:=List.mem_iff_getElem?.1 hx
   grind,λx hx=>by have:=ft x hx;omega⟩,ft⟩
  show Wp (if _ then _ else _) h2 _;split
  .rw[ag];exact⟨λ_=>fg,z.drop⟩
  .rw[ag];exact⟨λ_=>fg,z.drop⟩
 |inr b=>
  show Wp (AI b) h2 _;rw[ag];exact⟨λh=>(by rw[f2 b rfl] at h;cases h),z.drop⟩
theorem aeA {p:PT}{i:Nat}{x:Int×ζ}(hx:p[i]?=some x):((B6 p).drop (i*2)).take 2=T5 x:=by
 induction p generalizing i with
 |nil=>simp at hx
 |cons a p ih=>
  cases i with
  |zero=>simp at hx;subst hx;rfl
  |succ i=>
   have:=ih (i:=i) (by simpa using hx);rw[show (i+1)*2=i*2+2 by omega];exact this
theorem rk.T0 {s:Sl}{p:PT}{g:Nat}(r:rk h s 2 (B6 p) g){i:Nat}{x:Int×ζ}(hx:p[i]?=some x){f:Addr->M β}(q:∀a,Cl h a (T5 x) g->Wp (f a) h Q):Wp (sh (aw s (i:Int) 2) f) h Q:=by
 have hl:=r.1;rw[zE] at hl;have hlt:=(List.getElem?_eq_some_iff.1 hx).1;refine r.ix (by omega) (by omega) λa c=>q a ?_;rw[IT,aeA hx] at c;exact c
theorem aak {a b:Sl}{p q:PT}{g g':Nat}(ra:rk h a 2 (B6 p) g)(rb:rk h b 2 (B6 q) g')(hl:p.length=q.length)(hp:p.length<=5000):∀(n i:Nat),p.length-i<n->i<=p.length->Wp (dX n a b (i:Int)) h λr h'=>h'=h/\((r=.inl ()/\p.drop i=q.drop i)\/(r=.inr false/\p.drop i≠q.drop i)):=by
 have al:a.len=p.length:=by have:=ra.1;rw[zE] at this;omega
 intro n
 induction n with
 |zero=>intro i h1;omega
 |succ n ih=>
  intro i h1 h2;rw[sZ];unfold jK;rw[al];by_cases hi:i<p.length
  .rw[AT (by simpa using hi)];obtain⟨x,hx⟩:=fY (l:=p) hi;obtain⟨y,hy⟩:=fY (l:=q) (i:=i) (by omega);refine rk.T0 ra hx λad ca=>rk.T0 rb hy λbd cb=>?_;refine ca.fC (ls:=[li,.str]) (x:=x) rfl (cb.fC (ls:=[li,.str]) (x:=y) rfl ?_);rw[drop_cons hx,drop_cons hy];by_cases e:x=y
   .rw[By (by subst e;simp[(vx x.2 x.2).2 rfl]),vq (B:=5000) (by omega) (by omega)];refine (ih (i+1) (by omega) (by omega)).mono λr h' hr=>?_
    simp_all
   .have hne:(decide (x.1=y.1)&&(mX x.2 y.2&&true))=false:=by
     cases hq:(decide (x.1=y.1)&&(mX x.2 y.2&&true)) with
     |false=>rfl
     |true=>
      simp only[aau,OF,Bool.and_true] at hq;exact absurd (Prod.ext hq.1 ((vx _ _).1 hq.2)) e
    rw[AT (by rw[hne];rfl)];exact ag.2 ⟨rfl,.inr ⟨rfl,λh=>e (aia h).1⟩⟩
  .rw[By (by simpa using hi)];refine ag.2 ⟨rfl,.inl ⟨rfl,?_⟩⟩
   grind
theorem M5 {a b:Sl}{p q:PT}{g g':Nat}(ra:rk h a 2 (B6 p) g)(rb:rk h b 2 (B6 q) g')(hp:p.length<=5000){n:Nat}(hn:5000<n):Wp (jL n a b) h λr h'=>h'=h/\r=decide (p=q):=by
 have al:a.len=p.length:=by have:=ra.1;rw[zE] at this;omega
 have bl:b.len=q.length:=by have:=rb.1;rw[zE] at this;omega
 unfold jL;rw[al,bl];by_cases e:p.length=q.length
 .rw[By (by simp;omega),ah];refine (aak ra rb e hp n 0 (by omega) (by omega)).mono λr h' hr=>?_;obtain⟨rfl,hr⟩:=hr;rw[afj,afj] at hr;rcases hr with⟨rfl,q2⟩|⟨rfl,q2⟩
  .exact ag.2 ⟨rfl,(ahV q2).symm⟩
  .exact ag.2 ⟨rfl,(ag7 q2).symm⟩
 .rw[AT (by simp;omega)];exact ag.2 ⟨rfl,(ag7 λq=>e (by rw[q])).symm⟩
theorem wE (z:Z h0 h L){t:ζ}{n:Nat}{f:Int×ζ×Bool×Sl×Sl->M β}(q:∀h',Z h0 h' L->Wp (f (2,t,false,nP,nP)) h' Q):Wp (sh (ea n t) f) h Q:=by
 rw[ah];unfold ea;refine z.new λx0 h1 z _=>z.st 0 (cs':=[vi 2,.string t,.bool false,aT,aT]) λh2 z=>?_;refine z.fC 0 (x:=((2,t,false,nP,nP):bS [li,.str,.bool,.sl,.sl])) (ag.2 (q h2 z.drop))
end
section
variable {N N2:List ak}{r s:Int}
def nvC (N:List ak):Nat->Int->NS->Option (Int×NS)
 |0,_,_=>none
 |f+1,k,S=>match gt S.at' k,gt N k with
  |some v,some x=>if 0<=v then some (v,S) else match mO (nvC N f) x (iota x.items.length) ⟨S.at'.set k.toNat S.iX,S.iX+1,S.out⟩ with
   |none=>none
   |some ((ks,is),S2)=>some ((S.iX:Int),⟨S2.at',S2.iX,S2.out.set S.iX ⟨x.kind,x.text,x.ord,ks,is⟩⟩)
  |_,_=>none
theorem agl (hN:∀x∈N,x.kind≠10):∀f,nv N f=nvC N f
 |0=>rfl
 |f+1=>by
  funext k S;unfold nv nvC;cases e1:gt S.at' k with
  |none=>rfl
  |some v=>
   cases e2:gt N k with
   |none=>rfl
   |some x=>
    have eo:eH N k=iota x.items.length:=by
     unfold eH tK;rw[e2];simp only;rw[By λh=>hN x (aq e2) h.1]
    simp only;rw[eo,agl hN f];rfl
def aal (N:List ak)(r:Int):List ak:=match nvC N (N.length+1) r (Q8 N.length) with
 |some (_,S)=>S.out
 |none=>[]
theorem ab2 (hN:∀x∈N,x.kind≠10):jN N r=aal N r:=by
 unfold jN aal;rw[agl hN];rfl
def mtC (x y:ak):Option (List ζ):=if decide (x.kind=y.kind)&&mX x.text y.text&&(x.ord==y.ord)&&decide (x.items.length=y.items.length) then some [] else none
theorem agm {x y:ak}(hx:x.keys=[])(hy:y.keys=[]):GM N r N2 s x y=mtC x y:=by
 unfold GM mtC;rw[hx,hy];simp only[List.map_nil,agN];by_cases h:x.kind≠y.kind\/x.text≠y.text\/x.ord≠y.ord\/x.items.length≠y.items.length
 .rw[AT h,By];intro hh;simp only[aau,OF,beq_iff_eq] at hh
  grind [vx]
 .rw[By h,AT];simp only[aau,OF,beq_iff_eq];refine⟨⟨⟨?_,?_⟩,?_⟩,?_⟩
  .exact Classical.not_not.1 λe=>h (.inl e)
  .exact (vx _ _).2 (Classical.not_not.1 λe=>h (.inr (.inl e)))
  .exact Classical.not_not.1 λe=>h (.inr (.inr (.inl e)))
  grind
def srC (N N2:List ak):Nat->List IP->IP->Option (List IP×Option PT)
 |0,_,_=>none
 |f+1,met,q=>if q∈met then some (met,none) else match gt N q.1,gt N2 q.2 with
  |some x,some y=>match mtC x y with
   |none=>some (q::met,some [])
   |some T=>PD (srC N N2 f) T 0 x.items y.items (q::met)
  |_,_=>none
theorem agn (h1:∀x∈N,x.keys=[])(h2:∀x∈N2,x.keys=[]):∀f,T4 N r N2 s f=srC N N2 f
 |0=>rfl
 |f+1=>by
  funext met q;unfold T4 srC;split
  .rfl
  .cases e1:gt N q.1 with
   |none=>rfl
   |some x=>
    cases e2:gt N2 q.2 with
    |none=>rfl
    |some y=>
     simp only;rw[agm (h1 x (aq e1)) (h2 y (aq e2)),agn h1 h2 f]
theorem M6 {F G:List IP->IP->Option (List IP×Option PT)}(h:∀m q x,F m q=some x->G m q=some x){T:List ζ}:∀(xs ys:ε) (i:Nat) (met:List IP) x,PD F T i xs ys met=some x->PD G T i xs ys met=some x
 |[],ys,i,met,x,e=>by unfold PD at e⊢;exact e
 |a::xs,[],i,met,x,e=>by unfold PD at e⊢;exact e
 |a::xs,b::ys,i,met,x,e=>by
  unfold PD at e⊢;cases e1:F met (a,b) with
  |none=>rw[e1] at e;cases e
  |some w=>
   rw[e1] at e;rw[h _ _ _ e1];obtain⟨m,o⟩:=w;cases o with
   |some p=>exact e
   |none=>exact M6 h xs ys (i+1) m x e
theorem M7:∀(f:Nat) m q x,srC N N2 f m q=some x->srC N N2 (f+1) m q=some x
 |0,m,q,x,e=>by cases e
 |f+1,m,q,x,e=>by
  unfold srC at e⊢;split at e
  .rename_i hm;rw[AT hm];exact e
  .rename_i hm;rw[By hm];cases e1:gt N q.1 with
   |none=>rw[e1] at e;cases e
   |some u=>
    cases e2:gt N2 q.2 with
    |none=>rw[e1,e2] at e;cases e
    |some v=>
     rw[e1,e2] at e;simp only at e⊢;cases e3:mtC u v with
     |none=>rw[e3] at e;exact e
     |some T=>rw[e3] at e;exact M6 (λm q x=>M7 f m q x) _ _ _ _ _ e
theorem aeB {f g:Nat}(h:f<=g){m:List IP}{q:IP}{x}(e:srC N N2 f m q=some x):srC N N2 g m q=some x:=by
 induction h with
 |refl=>exact e
 |step _ ih=>exact M7 _ _ _ _ ih
def A8 (x:ak):Bool:=decide (x.kind≠10)&&decide (x.keys.length=0)
theorem BZ (h:N.all A8=true):(∀x∈N,x.kind≠10)/\∀x∈N,x.keys=[]:=by
 rw[aeI] at h;refine⟨λx hx=>?_,λx hx=>?_⟩
 .have:=h x hx;simp only[A8,aau,OF] at this;exact this.1
 .have:=h x hx;simp only[A8,aau,OF] at this;exact acb this.2
theorem aan {M M2:List ak}{m:List IP}{o:Option PT}(h1:N.all A8=true)(h2:N2.all A8=true)(e1:aal N r=M)(e2:aal N2 s=M2)(p1:M.all A8=true)(p2:M2.all A8=true)(e:srC M M2 50 [] (0,0)=some (m,o)):TO N r N2 s=o:=by
 unfold TO Hr;rw[ab2 (BZ h1).1,ab2 (BZ h2).1,e1,e2,agn (BZ p1).2 (BZ p2).2,aeB (show 50<=Rn by unfold Rn;omega) e]
def lst (is:ε):ak:=⟨9,ofBytes [],false,[],is⟩
def num (t:List UInt8):ak:=⟨2,ofBytes t,false,[],[]⟩
def T6:List ak:=[lst [1,2],num [49],num [49]]
def exB:List ak:=[lst [1,1],num [49]]
def exC:List ak:=[lst [1,2],num [49],num [53]]
def exD:List ak:=[lst [0]]
def exE:List ak:=[lst [1],lst [0]]
theorem ab4:TO T6 0 exC 0=some [(1,ofBytes [])]:=aan (M:=T6) (M2:=exC) (m:=[(2,2),(1,1),(0,0)]) (by decide +kernel) (by decide +kernel) (by rfl) (by rfl) (by decide +kernel) (by decide +kernel) (by kernel_rfl)
theorem ago:TO T6 0 exB 0=none:=aan (M:=T6) (M2:=exB) (m:=[(2,1),(1,1),(0,0)]) (by decide +kernel) (by decide +kernel) (by rfl) (by rfl) (by decide +kernel) (by decide +kernel) (by kernel_rfl)
theorem agp:TO exD 0 exE 0=none:=aan (M:=exD) (M2:=exE) (m:=[(0,1),(0,0)]) (by decide +kernel) (by decide +kernel) (by rfl) (by rfl) (by decide +kernel) (by decide +kernel) (by kernel_rfl)
theorem agq:TO exD 0 T6 0=some []:=aan (M:=exD) (M2:=T6) (m:=[(0,0)]) (by decide +kernel) (by decide +kernel) (by rfl) (by rfl) (by decide +kernel) (by decide +kernel) (by kernel_rfl)
end
section
variable {N N2:List ak}{r s:Int}
theorem M8:∀{ms:List Bool} {N:List ak},(∀x∈N,jQ x=some true)->ms.length=N.length->ms.all id=true->gA ms N=some true
 |[],[],_,_,_=>by unfold gA;rfl
 |[],_::_,_,h,_=>by simp at h
 |_::_,[],_,h,_=>by simp at h
 |m::ms,x::N,hf,hl,ha=>by
  have ih:=M8 (ms:=ms) (N:=N) (λy hy=>hf y (BY _ hy)) (by simpa using hl) (by grind);have hm:m=true:=by grind
  grind [gA,List.mem_cons_self]
def ab5 (N:List ak):Bool:=
 decide (N.length<=4096)&&decide (N.length≠0)&&F9 N 0&&(match yb KF N 0 (List.replicate N.length false) with
  |none=>false
  |some ms=>decide (ms.length=N.length)&&ms.all id)&&(match iX N 0 with
  |none=>false
  |some c=>match Nh KF N N (List.replicate N.length false) with
   |none=>false
   |some ks=>gB ks c&&(match WD KF N N with
    |some false=>(match dep KF N 0 with
     |some (d,_)=>decide (d<=32)
     |none=>false)
    |_=>false))
theorem M9 (hf:∀x∈N,jQ x=some true)(h:ab5 N=true):gc N 0=0:=by
 unfold ab5 at h;simp only[aau,OF] at h;obtain⟨⟨⟨⟨h1,h2⟩,h3⟩,h4⟩,h5⟩:=h
 suffices hh:mM KF N 0=some 0 by unfold gc;rw[hh];rfl
 unfold mM;rw[By (by omega),By h2,By (by rw[h3];decide)];cases e1:yb KF N 0 (List.replicate N.length false) with
 |none=>rw[e1] at h4;cases h4
 |some ms=>
  rw[e1] at h4;simp only[OF,aau] at h4;simp only;rw[M8 hf h4.1 h4.2];simp only;cases e2:iX N 0 with
  |none=>rw[e2] at h5;cases h5
  |some c=>
   rw[e2] at h5;simp only at h5⊢;cases e3:Nh KF N N (List.replicate N.length false) with
   |none=>rw[e3] at h5;cases h5
   |some ks=>
    grind
theorem wF (is:ε):jQ (lst is)=some true:=by unfold jQ lst;simp[BM]
theorem zg {t:List UInt8}(h:oT (ofBytes t)=true):jQ (num t)=some true:=by unfold jQ DG num;simp[h]
theorem Rt:oT (ofBytes [49])=true:=by decide +kernel
theorem agr:oT (ofBytes [53])=true:=by decide +kernel
theorem re {x:ak}(h:jQ x=some true)(hN:∀x∈N,jQ x=some true):∀y∈x::N,jQ y=some true:=λy hy=>by
 grind
theorem GH:∀y∈([]:List ak),jQ y=some true:=λy hy=>by cases hy
theorem gcA:gc T6 0=0:=M9 (re (wF _) (re (zg Rt) (re (zg Rt) GH))) (by decide +kernel)
theorem gcB:gc exB 0=0:=M9 (re (wF _) (re (zg Rt) GH)) (by decide +kernel)
theorem gcC:gc exC 0=0:=M9 (re (wF _) (re (zg Rt) (re (zg agr) GH))) (by decide +kernel)
theorem gcD:gc exD 0=0:=M9 (re (wF _) GH) (by decide +kernel)
theorem gcE:gc exE 0=0:=M9 (re (wF _) (re (wF _) GH)) (by decide +kernel)
theorem GI (h:N.all (λx=>decide (x.items.length<=80)&&decide (x.keys.length<=80)&&decide (x.text.size<=100))=true)(hl:N.length<=40):eK N:=by
 rw[aeI] at h;refine⟨hl,λx hx=>?_,λx hx=>?_⟩
 .grind
 grind
theorem fwA:eK T6:=GI (by decide +kernel) (by decide)
theorem fwB:eK exB:=GI (by decide +kernel) (by decide)
theorem fwC:eK exC:=GI (by decide +kernel) (by decide)
theorem fwD:eK exD:=GI (by decide +kernel) (by decide)
theorem fwE:eK exE:=GI (by decide +kernel) (by decide)
theorem zF {o:Option PT}(f1:eK N)(f2:eK N2)(c1:gc N r=0)(c2:gc N2 s=0)(h:TO N r N2 s=o):Rq N r N2 s=o.isNone:=by
 have hq:=Rr f1 f2 c1 c2;rw[h] at hq;unfold Rq;cases o with
 |none=>grind
 |some p=>grind
theorem aiM:Rq T6 0 exB 0=true:=zF fwA fwB gcA gcB ago
theorem aiN:Rq T6 0 exC 0=false:=zF fwA fwC gcA gcC ab4
theorem aiO:Rq exD 0 exE 0=true:=zF fwD fwE gcD gcE agp
theorem aiP:Rq exD 0 T6 0=false:=zF fwD fwA gcD gcA agq
end
section
variable {α β:Type}{h h' h0:af}{L:List bu}{N N2:List ak}{Q:β->af->Prop}
theorem Nc {b cap:Nat}{R:List aY}(l:LB h b (R.flatMap aY.enc) az)(hR:∀x∈R,IL h x.ks x.kl/\IL h x.is x.il):kX h ⟨some (an b),R.length,cap⟩ (R.map aY.v):=
 ⟨R,b+1,rfl,l.B5 (by rw[ie aY.lh]),hR⟩
theorem zh:IL h nP []:=⟨0,rk.nil rfl⟩
theorem H9 {b n cap:Nat}{l:ε}(lb:LB h b (l.map vi) av)(hn:l.length=n):IL h ⟨some (an b),n,cap⟩ l:=⟨_,lb.B5 (by simp[hn])⟩
def Eb (b n:Nat)(l:ε):aY:=⟨9,ofBytes [],false,nP,[],0,⟨some (an b),n,n+1⟩,l,0⟩
def B0 (t:List UInt8):aY:=⟨2,ofBytes t,false,nP,[],0,nP,[],0⟩
theorem om {x:aY}{R:List aY}(h1:IL h x.ks x.kl/\IL h x.is x.il)(h2:∀x∈R,IL h x.ks x.kl/\IL h x.is x.il):∀y∈x::R,IL h y.ks y.kl/\IL h y.is y.il:=λy hy=>by
 grind
theorem B3:∀y∈([]:List aY),IL h y.ks y.kl/\IL h y.is y.il:=λy hy=>by cases hy
theorem XR (z:Z h0 h L){n:Nat}(hn:X1<=n):Wp (mL n) h λy h'=>y=true/\Z h0 h' L:=by
 obtain⟨_,_,n3⟩:=Rp hn;unfold mL;refine z.new λx0 _ z _=>wE z λ_ z=>wE z λ_ z=>z.new λx3 _ z _=>z.new λx4 _ z _=>?_;refine z.st 0 (cs':=[.slice (some (an x3)) 3 4,vi 0]) λ_ z=>?_;refine z.new λx6 _ z _=>wE z λ_ z=>z.new λx8 _ z _=>z.new λx9 _ z _=>?_;refine z.st 0 (cs':=[.slice (some (an x8)) 2 3,vi 0]) λ_ z=>?_;refine z.new λx11 _ z _=>wE z λ_ z=>wE z λ_ z=>z.new λiY _ z _=>z.new λx15 _ z _=>?_;refine z.st 0 (cs':=[.slice (some (an iY)) 3 4,vi 0]) λ_ z=>?_;refine z.new λx17 _ z _=>z.new λrF _ z _=>z.new λx19 _ z _=>?_;refine z.st 0 (cs':=[.slice (some (an rF)) 1 2,vi 0]) λ_ z=>?_;refine z.new λx21 _ z _=>z.new λx22 _ z _=>z.new λx23 _ z _=>z.new λx24 _ z _=>?_;refine z.st 0 (cs':=[.slice (some (an x23)) 2 3,vi 0]) λh25 z=>?_;have z:Z h0 h25 (.au x24 [.slice (some (an x23)) 2 3,vi 0] aj::.au x23 ([Eb x21 1 [1],Eb x22 1 [0]].flatMap aY.enc) az::.au x22 ([0].map vi) av::.au x21 ([1].map vi) av ::
  .au x19 [.slice (some (an rF)) 1 2,vi 0] aj::.au rF ([Eb x17 1 [0]].flatMap aY.enc) az::.au x17 ([0].map vi) av ::
  .au x15 [.slice (some (an iY)) 3 4,vi 0] aj::.au iY ([Eb x11 2 [1,2],B0 [49],B0 [53]].flatMap aY.enc) az::.au x11 ([1,2].map vi) av ::
  .au x9 [.slice (some (an x8)) 2 3,vi 0] aj::.au x8 ([Eb x6 2 [1,1],B0 [49]].flatMap aY.enc) az::.au x6 ([1,1].map vi) av ::
  .au x4 [.slice (some (an x3)) 3 4,vi 0] aj::.au x3 ([Eb x0 2 [1,2],B0 [49],B0 [49]].flatMap aY.enc) az::.au x0 ([1,2].map vi) av::L):=z
 have nil2:∀t,IL h25 (B0 t).ks (B0 t).kl/\IL h25 (B0 t).is (B0 t).il:=λ_=>⟨zh,zh⟩;have GE:kX h25 ⟨some (an x23),2,3⟩ exE:=Nc (R:=[Eb x21 1 [1],Eb x22 1 [0]]) (z.get 1 rfl) (om ⟨zh,H9 (z.get 3 rfl) rfl⟩ (om ⟨zh,H9 (z.get 2 rfl) rfl⟩ B3));have GD:kX h25 ⟨some (an rF),1,2⟩ exD:=Nc (R:=[Eb x17 1 [0]]) (z.get 5 rfl) (om ⟨zh,H9 (z.get 6 rfl) rfl⟩ B3);have GC:kX h25 ⟨some (an iY),3,4⟩ exC:=Nc (R:=[Eb x11 2 [1,2],B0 [49],B0 [53]]) (z.get 8 rfl) (om ⟨zh,H9 (z.get 9 rfl) rfl⟩ (om (nil2 _) (om (nil2 _) B3)));have GB':kX h25 ⟨some (an x8),2,3⟩ exB:=Nc (R:=[Eb x6 2 [1,1],B0 [49]]) (z.get 11 rfl) (om ⟨zh,H9 (z.get 12 rfl) rfl⟩ (om (nil2 _) B3));have GA:kX h25 ⟨some (an x3),3,4⟩ T6:=Nc (R:=[Eb x0 2 [1,2],B0 [49],B0 [49]]) (z.get 14 rfl) (om ⟨zh,H9 (z.get 15 rfl) rfl⟩ (om (nil2 _) (om (nil2 _) B3)));clear nil2;refine z.fC 13 (x:=((⟨some (an x3),3,4⟩,0):bS [.sl,li])) (z.fC 7 (x:=((⟨some (an iY),3,4⟩,0):bS [.sl,li])) ?_);rw[ah];refine (M0 (Z.start z.wf) GA GC fwA fwC hn).mono λv h26 hv=>?_;obtain⟨⟨hv1,_⟩,fr⟩:=hv;have hv1:=hv1 ⟨gcA,gcC⟩;rw[ab4] at hv1;obtain⟨ht,g,rs⟩:=hv1;have z:=z.pure fr;have GA:=GA.fr fr;have GB':=GB'.fr fr;have GC:=GC.fr fr;have GD:=GD.fr fr;have GE:=GE.fr fr;clear fr;refine z.fC 13 (x:=((⟨some (an x3),3,4⟩,0):bS [.sl,li])) (z.fC 10 (x:=((⟨some (an x8),2,3⟩,0):bS [.sl,li])) ?_);rw[ah];refine (ze (Z.start z.wf) GA GB' fwA fwB hn).mono λb h27 hb=>?_;obtain⟨rfl,fr⟩:=hb;rw[aiM,AT rfl];have z:=z.pure fr;have GA:=GA.fr fr;have GC:=GC.fr fr;have GD:=GD.fr fr;have GE:=GE.fr fr;have rs:=rs.fr fr λx=>x.elim;clear fr GB';refine z.fC 13 (x:=((⟨some (an x3),3,4⟩,0):bS [.sl,li])) (z.fC 7 (x:=((⟨some (an iY),3,4⟩,0):bS [.sl,li])) ?_);rw[ah];refine (ze (Z.start z.wf) GA GC fwA fwC hn).mono λb h28 hb=>?_;obtain⟨rfl,fr⟩:=hb;rw[aiN,AT (by rfl)];have z:=z.pure fr;have GA:=GA.fr fr;have GD:=GD.fr fr;have GE:=GE.fr fr;have rs:=rs.fr fr λx=>x.elim;clear fr GC;refine z.fC 4 (x:=((⟨some (an rF),1,2⟩,0):bS [.sl,li])) (z.fC 0 (x:=((⟨some (an x23),2,3⟩,0):bS [.sl,li])) ?_);rw[ah];refine (ze (Z.start z.wf) GD GE fwD fwE hn).mono λb h29 hb=>?_;obtain⟨rfl,fr⟩:=hb;rw[aiO,AT rfl];have z:=z.pure fr;have GA:=GA.fr fr;have GD:=GD.fr fr;have rs:=rs.fr fr λx=>x.elim;clear fr GE;refine z.fC 4 (x:=((⟨some (an rF),1,2⟩,0):bS [.sl,li])) (z.fC 13 (x:=((⟨some (an x3),3,4⟩,0):bS [.sl,li])) ?_);rw[ah];refine (ze (Z.start z.wf) GD GA fwD fwA hn).mono λb h30 hb=>?_;obtain⟨rfl,fr⟩:=hb;rw[aiP,AT (by rfl),AT ht];have z:=z.pure fr;have rs:=rs.fr fr λx=>x.elim;refine z.new λx41 h31 z fr2=>?_;have rs:=rs.fr fr2 λx=>x.elim;have l41:LB h31 x41 (B6 [(1,ofBytes [])]) aE:=z.get 0 rfl;rw[ah];refine (M5 (p:=[(1,ofBytes [])]) (q:=[(1,ofBytes [])]) rs (l41.B5 (n:=1) (cap:=2) (sz:=2) rfl) (by decide) (n:=n) (by omega)).mono λr h' hr=>?_;obtain⟨rfl,rfl⟩:=hr;refine ag.2 ⟨ahV rfl,z.sub ?_⟩;exact agB [_,_,_,_,_,_,_,_,_,_,_,_,_,_,_,_,_] L
end
section
variable {α β:Type}{h h' h0:af}{L:List bu}{N N2:List ak}{r s:Int}{Q:β->af->Prop}
theorem aap:Rq N r N2 s=true↔gc N r=0/\gc N2 s=0/\Rl (jN N r) 0 0 (jN N2 s) 0 0:=by
 unfold Rq;exact @decide_eq_true_iff _ (Classical.propDecidable _)
theorem FiR.not {v:Sl×Bool}(f1:eK N)(f2:eK N2)(c1:gc N r=0)(c2:gc N2 s=0)(h:FiR N r N2 s v h'):v.2=!Rq N r N2 s:=by
 have h1:=h.1 ⟨c1,c2⟩;cases hf:TO N r N2 s with
 |none=>
  rw[hf] at h1;rw[h1,zF f1 f2 c1 c2 hf];rfl
 |some q=>
  rw[hf] at h1;rw[h1.1,zF f1 f2 c1 c2 hf];rfl
theorem wf_u8 {n:Int}(h:(Lit.int .u8 n).wf=true):0<=n/\n<=255:=by
 have e:=Bool.and_eq_true_iff.1 h;exact⟨agX e.1,agX e.2⟩
theorem Z.aiQ (z:Z h0 h L)(i:Nat){k n sz:Nat}{e e2:κ}{new:δ}{f:Sl->M β}(hi:L[i]?=some (.au k [] e2))(hn:n≠0)(hl:new.length=n*sz)(hb:n<=cF)
  (q:∀b h',Z h0 h' (.au b new e::L)->Wp (f ⟨some (an b),n,0⟩) h' Q):Wp (sh (Ago.app true ⟨some (an k),0,1⟩ sz e n new) f) h Q:=by
 have l:LB h k [] e2:=z.get i hi;have hnx:=z.wf.get h.next (aao _)
 refine Ak (x:=⟨some (an h.next),n,0⟩) (h1:=h.new e new) ?_ (q h.next _ (z.add (Fr.new z.wf) (o:=.au h.next new e) LB.new (.inr (aam _))))
 unfold Ago.app;simp only[hnx,ahZ,air];unfold s9;rw[By hn,By (by simp;omega)];have c0:aU h (some (an k)) (0*sz)=some []:=by unfold aU;simp only;rw[show h.get (an k).block=some (.cells [] (k+1) 0 e2) from l.get];simp
 simp only[c0,show h.get (an k).block=some (.cells [] (k+1) 0 e2) from l.get];rw[By (by omega),AT (by omega)];simp
theorem aaq {x0:Nat}{s:Sl}{n:Nat}{a0:Int}(z:Z h0 h [.au x0 [aH s,vi r] aj])(G:kX h0 s N)(fw:eK N)(ht:∀x∈N,x.text.size<=100)(c0:gc N r=0)(ha:0<=a0/\a0<=255)(hn:X1<=n) :
  Wp (fS n a0 (an x0)) h λy _=>y=true:=by
 obtain⟨_,_,n3⟩:=Rp hn;have nq:=(Re (aao XA)).2.1;have hpos:0<N.length:=by have:=(fw.vdg c0).rt;unfold IR at this;omega
 have hl:=G.len;have hfl:=fw.len;obtain⟨i,hi⟩:∃i:Nat,i=a0.toNat%N.length:=⟨_,rfl⟩;have hil:i<N.length:=by rw[hi];exact ahR _ hpos
 have hidx:(IntKind.i64.wrap a0).tmod (s.len:Int)=(i:Int):=by
  rw[s6 (by omega) (by omega),ah9 ha.1,hl,hi,Int.natCast_emod,Int.toNat_of_nonneg ha.1]
 obtain⟨x,hx⟩:=fY (l:=N) hil;unfold fS;refine z.ld 0 (o:=0) (l:=.sl) (x:=s) ?_;rw[ah,IE];refine⟨by simp;omega,?_⟩;refine z.ld 0 (o:=0) (l:=.sl) (x:=s) ?_;rw[hidx];refine G.NW z (by omega) (by simpa using hx) λa ks is nd=>?_;refine (nd.fr z.fr).KJ ?_;by_cases k5:x.kind=5
 .rw[By (by simpa using k5)];refine z.eC (n:=9) [0,7] (by decide) (by simp) λkb h1 z=>?_;refine z.ld 2 (o:=0) (l:=.sl) (x:=s) (z.ld 2 (o:=1) (x:=r) ?_);refine z.newAt 0 λh2 z=>?_;obtain⟨R,g,hR,hr,hIL⟩:=id G;have hRl:R.length=N.length:=by rw[<-hR,ac3]
  have hfl5:(R.flatMap aY.enc).length=N.length*5:=by rw[ie aY.lh,hRl]
  have hrd:aU h2 s.a (s.len*5)=some (R.flatMap aY.enc):=by
   obtain⟨q1,q2⟩:=hr.fr z.fr (λq=>q.elim);rcases q2 with q2|⟨a,q2,_,c,base,e,q3,q4,q5⟩
   .omega
   .unfold aU;rw[q2];simp only;rw[q3];simp only;rw[<-q1,AT q4,q5]
  rw[ah,UM];refine⟨_,hrd,?_⟩;rw[hl];show Wp (sh (Ago.app true ⟨some (an (kb+0)),0,1⟩ 5 az N.length (R.flatMap aY.enc)) _) h2 _;refine Z.aiQ z 0 rfl (by omega) hfl5 (by unfold cF;omega) λb h3 z=>?_;refine z.newAt 2 λh4 z=>?_
  let s2:Sl:=⟨some (an b),N.length,0⟩
  refine z.st 2 (cs':=[aH s2,vi r]) λh5 z=>?_;refine z.ld 2 (o:=0) (l:=.sl) (x:=s2) (z.ld 2 (o:=0) (l:=.sl) (x:=s2) ?_);have ix:∀{γ:Type} {f:Addr->M γ} {h:af} {Q:γ->af->Prop},Wp (f ⟨b,i*5,none⟩) h Q->Wp (sh (aw s2 (i:Int) 5) f) h Q:=λ{γ f h Q} q=>
   Ak (x:=⟨b,i*5,none⟩) (h1:=h) (by unfold aw;simp only[s2];rw[AT ⟨by omega,by omega⟩,IT];show some ((⟨b,0+i*5,none⟩:Addr),h)=_;rw[adQ]) q
  obtain⟨ρ,hρ⟩:=fY (l:=R) (i:=i) (by omega);have hv:ρ.v=x:=by
   have:N[i]?=some ρ.v:=by rw[<-hR,abo,hρ];rfl
   rw[hx] at this;exact (ab0 this).symm
  subst hv;have hcell:(R.flatMap aY.enc)[i*5+1]?=some (.string ρ.v.text):=by
   have:=agw (·[1]?) (HP aY.lh hρ)
   simp only[List.getElem?_take_of_lt (show 1<5 by omega),aev] at this;rw[this];rfl
  have hts:=ht ρ.v (IN hx);refine ix (z.ld 0 (o:=i*5+1) (l:=.str) (x:=ρ.v.text) ?_ rfl hcell rfl);refine Ak (x:=ρ.v.text++ofBytes [33]) (h1:=h5) (by
   have e1:(ofBytes [33]).size=1:=rfl;unfold kA;rw[AT (by rw[e1];unfold cF;omega)]) (ix ?_)
  let ρ':aY:={ ρ with text:=ρ.v.text++ofBytes [33] }
  have hsp:bf (R.flatMap aY.enc) (i*5+1) [.string (ρ.v.text++ofBytes [33])]=(R.set i ρ').flatMap aY.enc:=
   Dv (enc:=aY.enc) (sz:=5) aY.lh (x':=ρ') hρ (o:=1) (vs:=[.string (ρ.v.text++ofBytes [33])]) (by simp) (by unfold bf aY.enc;rfl)
  refine z.st 0 (cs':=(R.set i ρ').flatMap aY.enc) (λh6 z=>?_) rfl hsp (by rw[hfl5];simp;omega) rfl
  let N2:List ak:=N.set i { ρ.v with text:=ρ.v.text++ofBytes [33] }
  have hN2:(R.set i ρ').map aY.v=N2:=by
   rw[aho,hR];show N.set i ρ'.v=N.set i _;rfl
  have hsz:(ρ.v.text++ofBytes [33]).size=ρ.v.text.size+1:=by rw[agA];rfl
  have f2:eK N2:=⟨by show (N.set i _).length<=40;rw[aeN];exact hfl,λy hy=>by
   rcases vw hy with hy|rfl
   .exact fw.map y hy
   .exact fw.map ρ.v (IN hx),λy hy=>by
   rcases vw hy with hy|rfl
   .exact fw.txt y hy
   .show (ρ.v.text++ofBytes [33]).size<=101;omega⟩
  have G2:kX h6 s2 N2:=by
   have l:LB h6 b ((R.set i ρ').flatMap aY.enc) az:=z.get 0 rfl;refine⟨R.set i ρ',b+1,hN2,l.B5 (by rw[ie aY.lh,aeN,hRl]),λy hy=>?_⟩;rcases vw hy with hy|rfl
   .exact⟨(hIL y hy).1.fr z.fr,(hIL y hy).2.fr z.fr⟩
   .exact⟨(hIL ρ (IN hρ)).1.fr z.fr,(hIL ρ (IN hρ)).2.fr z.fr⟩
  have gi:gt N (i:Int)=some ρ.v:=by unfold gt;rw[AT (by omega),IT];exact hx
  have Lg:PE N N2 (i:Int) ρ.v (ρ.v.text++ofBytes [33]):=by
   refine⟨gi,k5,?_,λu hu=>?_,by show (N.set i _).length=_;rw[aeN],?_⟩
   .unfold gt;rw[AT (by omega),IT];exact aim hil
   .unfold gt;split
    .exact ahx (by omega)
    .rfl
   .unfold wC;simp only;rw[By (by omega),AT k5,By (by omega),AT k5];unfold Xq;rw[ahs,agK,agL];simp only[abY,aas];show _<_+(_+([33].flatMap vQ).length+1)+_;have:([33].flatMap vQ).length=1:=(by decide);omega
  refine z.fC 2 (ls:=[.sl,li]) (x:=(s2,r)) ?_;rw[ah];refine (uZ (Z.start z.wf) G2 f2.bd f2.ht (k:=KF) (n:=n) (by omega) (f2.gc r)).mono λy h7 hy=>?_;obtain⟨rfl,z7⟩:=hy;have z:=z.pure z7.fr;have G2:=G2.fr z7.fr;by_cases c2:gc N2 r=0
  .rw[By (by simpa using c2)];refine z.fC 3 (ls:=[.sl,li]) (x:=(s,r)) (z.fC 2 (ls:=[.sl,li]) (x:=(s2,r)) ?_);rw[ah];refine (M0 (Z.start z.wf) (G.fr z.fr) G2 fw f2 hn).mono λv h8 hv8=>?_;obtain⟨hv8,fr8⟩:=hv8;have z:=z.pure fr8;have G2:=G2.fr fr8;refine z.fC 3 (ls:=[.sl,li]) (x:=(s,r)) (z.fC 2 (ls:=[.sl,li]) (x:=(s2,r)) ?_);rw[ah];refine (ze (Z.start z.wf) (G.fr z.fr) G2 fw f2 hn).mono λy h9 hy=>?_;obtain⟨rfl,_⟩:=hy;have ne:Rq N r N2 r=false:=by
    cases e:Rq N r N2 r with
    |false=>rfl
    |true=>exact absurd (aap.1 e).2.2 (aaj fw f2 c0 c2 Lg)
   rw[ne,AT (by rfl)];refine ag.2 ?_;rw[hv8.not fw f2 c0 c2,ne];rfl
  .rw[AT (by simpa using c2)];exact ag.2 rfl
 .rw[AT (by simpa using k5)];exact ag.2 rfl
theorem PF (hw:WF h){s:Sl}{a1:Int}(G:kX h s N)(ha:0<=a1/\a1<=255){n:Nat}(hn:X1+4<=n):Wp (jV n (s,r) a1) h λy _=>y=true:=by
 have hn:X1<=n:=by omega
 obtain⟨_,_,n3⟩:=Rp hn;have nq:=(Re (aao XA)).2.1;unfold jV;refine (Z.start hw).new λx0 h1 z _=>?_;rw[ah];refine (XR z hn).mono λb h2 hb=>?_;obtain⟨rfl,z⟩:=hb;rw[By (by decide)];refine z.fC 0 (ls:=[.sl,li]) (x:=(s,r)) ?_;rw[ah];refine (XQ G z (by omega)).mono λb h3 hb=>?_;obtain⟨hf,z⟩:=hb;cases b with
 |false=>rw[AT (by rfl)];exact ag.2 rfl
 |true=>
  obtain⟨fw,ht⟩:=hf rfl;rw[By (by decide)];refine z.fC 0 (ls:=[.sl,li]) (x:=(s,r)) ?_;rw[ah];refine (uZ z G fw.bd fw.ht (k:=KF) (n:=n) (by omega) (fw.gc r)).mono λy h4 hy=>?_;obtain⟨rfl,z⟩:=hy;by_cases c0:gc N r=0
  .rw[By (by simpa using c0)];exact aaq z G fw ht c0 ha hn
  .rw[AT (by simpa using c0)];exact ag.2 rfl
end
end Go.Sh
