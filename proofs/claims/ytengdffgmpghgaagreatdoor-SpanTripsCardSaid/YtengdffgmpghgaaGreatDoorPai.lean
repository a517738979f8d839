
import Derived.Test.YtengdffgmpghgaaGreatDoorPah
set_option linter.all false
namespace Go.Sh
open Go Go.Ago Go.Proofs
section
variable {α β:Type}{h h' h0:ab}{L:List bA}{Q:β->ab->Prop}
abbrev vb (b:UInt8):ξ:=.int .u8 (b.toNat:Int)
theorem HC {m:M α}{f:α->M β}{x:α}{h1:ab}(e:m h=some (x,h1))(q:Wp (f x) h1 Q):Wp (sh m f) h Q:=by
 rw[ag];exact⟨x,h1,e,q⟩
def BS (bb:Nat)(p:θ)(s:Sl)(l:List UInt8)(g:Nat):List bA:=[.av bb [.pointer p,aM s] fB,.sl s 1 gH (l.map vb) g]
def B0 (h0 h:ab)(bb:Nat)(l:List UInt8)(L:List bA):Prop:=∃p s g,(p=none\/p=some (ai bb))/\(l=[]->s=uV)/\Z h0 h (BS bb p s l g++L)
theorem Tb (z:Z h0 h L){f:Nat->M β}(q:∀bb h',B0 h0 h' bb [] L->Wp (f bb) h' Q):Wp (sh (aJ none fB [Value.pointer none,bF]) f) h Q:=by
 refine z.new λbb h1 z1 _=>q bb h1 ?_;have z2:=Z.add z1 (Fr.refl z1.wf) (o:=.sl uV 1 gH [] 0) wq.nil (.inl rfl);exact⟨none,uV,0,.inl rfl,λ_=>rfl,z2.perm (.swap _ _ _)⟩
theorem CU {n bb:Nat}{l:List UInt8}(b:B0 h0 h bb l L):Wp (fi n (some (ai bb))) h λ_ h'=>B0 h0 h' bb l L:=by
 obtain⟨p,s,g,hp,hs,z⟩:=b;unfold fi;refine bj ?_;refine z.ld 0 (o:=0) (l:=.ptr) (x:=p) ?_;rcases hp with rfl|rfl
 .rw[By (by rfl)];have lb:LB h bb [.pointer none,aM s] fB:=z.get 0 rfl;refine bj ?_;refine HC (x:=ai bb) (h1:=h) (by unfold inB;rw[lb.get];rfl) ?_;unfold qt;rw[ag,af];refine bj ?_;refine HC (x:=ai bb) (h1:=h) (by unfold atB;rw[lb.get];simp) ?_;refine bj ?_;refine z.st 0 (cs':=[.pointer (some (ai bb)),aM s]) λh1 z1=>af.2 ⟨some (ai bb),s,g,.inr rfl,hs,z1⟩
 .rw[AT (by simp)];refine bj ?_;refine z.ld 0 (o:=0) (l:=.ptr) (x:=some (ai bb)) ?_;refine HC (x:=true) (h1:=h) (by unfold eqP;simp) ?_;rw[AT (by simp)];exact af.2 ⟨some (ai bb),s,g,.inr rfl,hs,z⟩
theorem Ma {bb:Nat}{p:θ}{s:Sl}{l:List UInt8}{g:Nat}(z:Z h0 h (BS bb p s l g++L)):s.len=l.length:=by
 have o:wq h s 1 gH (l.map vb) g:=z.get 1 rfl;have:=o.1;simp at this;omega
theorem uD {n bb:Nat}{l:List UInt8}{b:UInt8}{c:Int}(hc:c=(b.toNat:Int))(B:B0 h0 h bb l L)(hl:l.length+1<=cT):Wp (aB n (some (ai bb)) c) h λ_ h'=>B0 h0 h' bb (l++[b]) L:=by
 subst hc;unfold aB;rw[ag];refine (CU B).mono λ_ h1 B=>?_;obtain⟨p,s,g,hp,hs,z⟩:=B;refine bj ?_;refine z.ld 0 (o:=1) (l:=.sl) (x:=s) ?_;have hsl:=Ma z;refine Z.Vr z 1 rfl (by decide) rfl (by rw[hsl];exact hl) λs' h2 g' hs' z2 _=>?_;refine bj ?_;have z2:Z h0 h2 (.av bb [.pointer p,aM s] fB::.sl s' 1 gH ((l++[b]).map vb) g'::L):=by rw[ain];exact z2
 refine z2.st 0 (cs':=[.pointer p,aM s']) λh3 z3=>af.2 ⟨p,s',g',hp,λe=>by simp at e,z3⟩
theorem zX {n bb:Nat}{l:List UInt8}{t:ζ}(B:B0 h0 h bb l L)(hl:l.length+t.size<=cT):Wp (ep n (some (ai bb)) t) h λ_ h'=>B0 h0 h' bb (l++t.data.toList) L:=by
 unfold ep;rw[ag];refine (CU B).mono λ_ h1 B=>?_;obtain⟨p,s,g,hp,hs,z⟩:=B;refine bj ?_;refine z.ld 0 (o:=1) (l:=.sl) (x:=s) ?_;have hsl:=Ma z;by_cases ht:t.size=0
 .have e1:t.data.toList=[]:=List.length_eq_zero_iff.1 ht;have e2:eV t=[]:=by unfold eV;rw[e1];rfl
  rw[ht,e2,ag];have o:wq h1 s 1 gH (l.map vb) g:=z.get 1 rfl;refine⟨s,h1,?_,?_⟩
  .show uJ false s 1 gH 0 [] h1=some (s,h1);unfold uJ;rw[By rfl];rcases o.2 with⟨rfl,_⟩|⟨_,_,_,b,base,e,_⟩
   .simp
   .rw[e];simp
  .refine bj ?_;rw[e1,afw];refine z.st 0 (cs':=[.pointer p,aM s]) λh3 z3=>af.2 ⟨p,s,g,hp,hs,z3⟩
 .have hcl:(eV t).length=t.size*1:=by unfold eV;rw[ae1,adp];rfl
  refine Z.Vr z 1 rfl ht hcl (by rw[hsl];exact hl) λs' h2 g' hs' z2 _=>?_;refine bj ?_;have z2:Z h0 h2 (.av bb [.pointer p,aM s] fB::.sl s' 1 gH ((l++t.data.toList).map vb) g'::L):=by rw[ain];exact z2
  refine z2.st 0 (cs':=[.pointer p,aM s']) λh3 z3=>af.2 ⟨p,s',g',hp,λe=>?_,z3⟩;exfalso;have:=ahv List.length e;rw[aa8,adf] at this;have h4:t.data.toList.length=t.size:=rfl;omega
theorem Fr.shut (hw:WF h){g:Nat}(h0:g≠0):Fr (·=g) h (h.shut g):=by
 have hg:∀j k,(h.shut g).get j=some k->h.get j=some k:=λj k hj=>by
  grind [ab.shut]
 refine⟨⟨λj hj=>?_,hw.used,λj c g' b e hj=>hw.eJ j c g' b e (hg _ _ hj),hw.maps⟩,aae _,λj c g' b e hj hx=>?_,λ_ _ _=>rfl,λ_ _=>rfl,λj hj hn=>?_,λ_ _ e _=>e⟩
 .have:=hw.get j hj;simp only[ab.shut,this]
 .grind [ab.shut,bw]
 .simp only[ab.shut,hn]
theorem BV:∀l:List UInt8,bytesOf (l.map vb)=some l
 |[]=>rfl
 |b::l=>by
  simp only[adq,bytesOf,BV l,aab]
  congr 2
  exact UInt8.toNat_inj.1 (by simp)
theorem I6 {n bb:Nat}{l:List UInt8}(B:B0 h0 h bb l L)(hl:l.length<=1073741824):Wp (gD n (some (ai bb))) h λr h'=>r=ofBytes l/\Z h0 h' L:=by
 obtain⟨p,s,g,hp,hs,z⟩:=B;unfold gD;refine bj (bj ?_);refine z.ld 0 (o:=1) (l:=.sl) (x:=s) ?_;have hsl:=Ma z;have o:wq h s 1 gH (l.map vb) g:=z.get 1 rfl;cases l with
 |nil=>
  have e:=hs rfl;subst e;rw[ag];refine⟨none,h,rfl,?_⟩;refine z.ld 0 (o:=1) (l:=.sl) (x:=uV) ?_;rw[ag];refine⟨ofBytes [],h,rfl,af.2 ⟨rfl,z.drop.drop⟩⟩
 |cons b l=>
  have hn:s.len≠0:=by rw[hsl];simp
  obtain⟨b2,base,e1,e2,hg⟩:=o.av hn;rw[ag];refine⟨s.a,h,by rw[e1];unfold Ee;simp only;rw[By hn],?_⟩;refine z.ld 0 (o:=1) (l:=.sl) (x:=s) ?_;have hr:=o.read;rw[adp] at hr;rw[ag];have hle:=o.le;have hgo:h0.next<g:=by
   have:=(z.own (.sl s 1 gH ((b::l).map vb) g) (IN _ IT)).2;exact this.resolve_left hg
  have hX:∀o∈L,o.eJ=g->o.eJ=0:=λo ho e=>by
   have h1:=(List.pairwise_cons.1 z.uo).2;have h2:=(List.pairwise_cons.1 h1).1 o ho;exact absurd (h2 e.symm) hg
  refine⟨ofBytes (b::l),h.shut g,?_,af.2 ⟨rfl,z.drop.drop.step (Fr.shut z.wf hg) (λg' e _=>by rw[e];exact hgo) hX⟩⟩;unfold aap;rw[e1] at hr⊢;simp only[aab,hr,e2];rw[By ⟨by omega,by rw[hsl];omega,hg,trivial⟩,BV]
end
section
variable {α β:Type}{h h' h0:ab}{L:List bA}{Q:β->ab->Prop}
def rJ (b:UInt8):List UInt8:=if b=34\/b=92 then [92,b] else [b]
def D8 (t:List UInt8):List UInt8:=34::t.flatMap rJ++[34]
theorem ZD (b:UInt8):(rJ b).length<=2:=by unfold rJ;split<;>simp
theorem F5:∀t:List UInt8,(t.flatMap rJ).length<=2*t.length
 |[]=>by simp
 |b::t=>by
  rw[acS,aa8,aac];have:=ZD b;have:=F5 t;omega
theorem byte_at {t:ζ}{i:Nat}(hi:i<t.size):∃b,t[i]?=some b/\t.data.toList[i]?=some b:=by
 have h1:i<t.data.toList.length:=hi;refine⟨t.data.toList[i],?_,aah h1⟩;rw[yc];exact aah h1
theorem u8c {b:UInt8}{c:Nat}(hc:c<256):(b.toNat:Int)=(c:Int)↔b=UInt8.ofNat c:=by
 grind [UInt8.toNat_inj,UInt8.toNat_ofNat']
theorem VL {t:ζ}{bb:Nat}(hs:t.size<=65536):∀(n i:Nat) (h:ab),t.size-i<n->i<=t.size->B0 h0 h bb (34::(t.data.toList.take i).flatMap rJ) L ->
  Wp (iR n t (ai bb) (t.size:Int) (i:Int)) h λ_ h'=>B0 h0 h' bb (34::t.data.toList.flatMap rJ) L:=by
 intro n
 induction n with
 |zero=>intro i h h1;omega
 |succ n ih=>
  intro i h h1 h2 B;rw[zK];unfold qP;have hlen:t.data.toList.length=t.size:=rfl;by_cases hi:i<t.size
  .rw[By (by simpa using hi)];obtain⟨b,hb1,hb2⟩:=byte_at hi;have ix:∀{γ:Type} {f:UInt8->M γ} {h:ab} {Q:γ->ab->Prop},Wp (f b) h Q->Wp (sh (jy t (i:Int)) f) h Q:=λq=>by
    rw[ag,fA]
    grind
   have hq:=F5 (t.data.toList.take i);rw[afd] at hq;have tk:(t.data.toList.take (i+1)).flatMap rJ=(t.data.toList.take i).flatMap rJ++rJ b:=by
    rw[ajI,hb2];simp
   have fin:∀h,B0 h0 h bb (34::(t.data.toList.take i).flatMap rJ++rJ b) L->Wp (iR n t (ai bb) (t.size:Int) (IntKind.i64.wrap ((i:Int)+1))) h λ_ h'=>B0 h0 h' bb (34::t.data.toList.flatMap rJ) L:=λh B=>by
    rw[tA (by omega) (by omega)];refine ih (i+1) h (by omega) (by omega) ?_;rw[tk];exact B
   have one:∀(l:List UInt8) h,B0 h0 h bb l L->l.length<=200000->∀{γ:Type} {f:ξ->M γ} {Q:γ->ab->Prop} (c:UInt8) (x:Int),x=(c.toNat:Int)->(∀v h',B0 h0 h' bb (l++[c]) L->Wp (f v) h' Q)->Wp (sh (aB n (some (ai bb)) x) f) h Q:=λl h B hl γ f Q c x hx q=>by
    rw[ag];exact (uD hx B (by unfold cT;omega)).mono λv h' B=>q v h' B
   have hl0:(34::(t.data.toList.take i).flatMap rJ).length<=180000:=by simp only[aac];omega
   refine ix ?_;by_cases c1:b=34
   .rw[By (by rw[c1];rfl)];refine one _ h B (by omega) 92 92 rfl λ_ h1 B=>ix ?_;refine one _ h1 B (by grind) b _ rfl λ_ h2 B=>fin h2 ?_;have:rJ b=[92,b]:=by unfold rJ;rw[By (.inl c1)]
    grind
   .have c1':¬(decide ((b.toNat:Int)=34))=true:=(by simpa using λe=>c1 ((u8c (c:=34) (by omega)).1 e));rw[AT c1'];refine ix ?_;by_cases c2:b=92
    .rw[By (by rw[c2];rfl)];refine one _ h B (by omega) 92 92 rfl λ_ h1 B=>ix ?_;refine one _ h1 B (by grind) b _ rfl λ_ h2 B=>fin h2 ?_;have:rJ b=[92,b]:=by unfold rJ;rw[By (.inr c2)]
     grind
    .have c2':¬(decide ((b.toNat:Int)=92))=true:=(by simpa using λe=>c2 ((u8c (c:=92) (by omega)).1 e));rw[AT c2'];refine ix ?_;refine one _ h B (by omega) b _ rfl λ_ h2 B=>fin h2 ?_;have:rJ b=[b]:=(by unfold rJ;rw[AT (by simp[c1,c2])]);rw[this];exact B
  .rw[AT (by simpa using hi)];rw[agw (by omega)] at B;exact af.2 B
theorem VM {t:ζ}{n:Nat}(hs:t.size<=65536)(hn:t.size<n)(hw:WF h):Wp (uy n t) h λr h'=>r.data.toList=D8 t.data.toList/\Fr (λ_=>False) h h':=by
 unfold uy;refine Tb (Z.start hw) λbb h1 B=>?_;rw[ag];refine (uD (b:=34) rfl B (by unfold cT;simp)).mono λ_ h2 B=>?_;rw[ag];refine (VL hs n 0 h2 (by omega) (by omega) (by simpa using B)).mono λ_ h3 B=>?_;have hq:=F5 t.data.toList;have hlen:t.data.toList.length=t.size:=rfl;rw[ag];refine (uD (b:=34) rfl B (by unfold cT;simp only[aac];omega)).mono λ_ h4 B=>?_;rw[ag];refine (I6 B (by grind)).mono λr h5 hr=>af.2 ?_;obtain⟨rfl,z⟩:=hr;exact⟨by unfold ofBytes D8;simp,z.fr⟩
end
section
variable {α β:Type}{h h' h0:ab}{L:List bA}{Q:β->ab->Prop}
def yY:List UInt8:=[48,49,50,51,52,53,54,55,56,57,97,98,99,100,101,102]
def vE (b:UInt8):List UInt8:=[yY.getD (b.toNat/16) 0,yY.getD (b.toNat%16) 0]
noncomputable def nQ (x:ah):List UInt8:=
 if x.kind=0 then [110,117,108,108] else if x.kind=5 then D8 x.text.data.toList else if x.kind=6 then 35::x.text.data.toList.flatMap vE else if x.kind=7 then 64::x.text.data.toList else if x.kind=8 then 37::x.text.data.toList else x.text.data.toList
theorem Mb:∀t:List UInt8,(t.flatMap vE).length=2*t.length
 |[]=>rfl
 |b::t=>by rw[acS,aa8,aac,Mb t];show 2+_=_;omega
theorem I7 (x:ah):(nQ x).length<=2*x.text.size+4:=by
 have h1:x.text.data.toList.length=x.text.size:=rfl;have h2:=F5 x.text.data.toList;have h3:=Mb x.text.data.toList
 grind [nQ,D8,List.length_append,List.length_cons,List.length_nil]
theorem ai7:∀k:Nat,k<256->IntKind.u8.wrap (((BitVec.ofInt 8 (k:Int)&&&BitVec.ofInt 8 15).toNat:Nat):Int)=((k%16:Nat):Int):=by decide +kernel
theorem ZE {k:Nat}(hk:k<16):(ofBytes yY)[k]?=some (yY.getD k 0):=by
 rw[yc];show yY[k]?=_;rw[afS];have:k<yY.length:=hk;rw[aah this];rfl
theorem Z.ZF (z:Z h0 h L){cs:δ}{e:κ}{f:Nat->M β}(q:∀b h',Z h0 h' (.sl ⟨some ⟨b,0,none⟩,cs.length,cs.length+1⟩ 1 e cs (b+1)::L)->Wp (f b) h' Q)(hs:cs.all eB=true:=by rfl):Wp (sh (aJ none e cs) f) h Q:=by
 rw[ag,Bi];refine⟨hs,q _ _ (z.add (Fr.new z.wf) (o:=.sl ⟨some ⟨h.next,0,none⟩,cs.length,cs.length+1⟩ 1 e cs (h.next+1)) ?_ (.inr (aad _)))⟩
 refine⟨by simp,.inr ⟨by omega,by simp[ab.new,ab.cS],.inr rfl,h.next,0,rfl,kL,by rw[ab.new,wo];simp⟩⟩
theorem acP {x:ah}{a:Addr}{ks is:Sl}(nd:EB h0 a x ks is)(hs:x.text.size<=65536):∀(n i:Nat) (h:ab) (s:Sl) (g:Nat),x.text.size-i<n->i<=x.text.size->Z h0 h (.sl s 1 gH ((35::(x.text.data.toList.take i).flatMap vE).map vb) g::L) ->
  Wp (np n (some a) s (x.text.size:Int) (i:Int)) h λr h'=>∃g,Z h0 h' (.sl r 1 gH ((35::x.text.data.toList.flatMap vE).map vb) g::L):=by
 intro n
 induction n with
 |zero=>intro i h s g h1;omega
 |succ n ih=>
  intro i h s g h1 h2 z;rw[BD];unfold tP;have hlen:x.text.data.toList.length=x.text.size:=rfl;by_cases hi:i<x.text.size
  .rw[By (by simpa using hi)];obtain⟨b,hb1,hb2⟩:=byte_at hi;have ix:∀{γ:Type} {f:UInt8->M γ} {h:ab} {Q:γ->ab->Prop},Wp (f b) h Q->Wp (sh (jy x.text (i:Int)) f) h Q:=λq=>by
    rw[ag,fA]
    grind
   have hb:b.toNat<256:=b.toNat_lt;refine bj (bj ((nd.fr z.fr).HS (ix ?_)));rw[ag,Py];refine⟨by decide,?_⟩;rw[ag,fA];have e1:((b.toNat:Int).fdiv (2^4))=((b.toNat/16:Nat):Int):=by
    rw[akB _ (by decide)];rfl
   refine⟨yY.getD (b.toNat/16) 0,by rw[e1];omega,by rw[e1,aab];exact ZE (by omega),?_⟩;refine (nd.fr z.fr).HS (ix ?_);rw[ag,fA,ai7 _ hb];refine⟨yY.getD (b.toNat%16) 0,by omega,by rw[aab];exact ZE (by omega),?_⟩;have hq:=Mb (x.text.data.toList.take i);rw[afd] at hq;have hsl:s.len=1+2*i:=by
    have o:wq h s 1 gH ((35::(x.text.data.toList.take i).flatMap vE).map vb) g:=z.get 0 rfl;have:=o.1
    grind
   refine Z.Vr z 0 rfl (by decide) rfl (by rw[hsl];unfold cT;omega) λs' h2' g' hs' z2 _=>?_;rw[tA (by omega) (by omega)];refine ih (i+1) h2' s' g' (by omega) (by omega) ?_
   grind [vE,List.take_add_one]
  .rw[AT (by simpa using hi)];rw[agw (by omega)] at z;exact af.2 ⟨g,z⟩
theorem Tc {x:ah}{a:Addr}{ks is:Sl}{n:Nat}(hw:WF h)(nd:EB h a x ks is)(hs:x.text.size<=65536)(hn:x.text.size<n):Wp (vh n (some a)) h λr h'=>r.data.toList=nQ x/\Fr (λ_=>False) h h':=by
 unfold vh nQ;refine bj (nd.NT ?_);by_cases k0:x.kind=0
 .rw[By (by simpa using k0),By k0];exact af.2 ⟨rfl,Fr.refl hw⟩
 rw[AT (by simpa using k0),AT k0];by_cases k5:x.kind=5
 .rw[By (by simpa using k5),By k5];refine bj (nd.HS ?_);rw[ag];exact (VM hs hn hw).mono λr h1 hr=>af.2 hr
 rw[AT (by simpa using k5),AT k5];by_cases k6:x.kind=6
 .rw[By (by simpa using k6),By k6];refine Z.ZF (cs:=[vb 35]) (Z.start hw) λb h1 z1=>?_;refine bj ((nd.fr z1.fr).HS ?_);rw[ag];refine (acP nd hs n 0 h1 _ _ (by omega) (by omega) z1).mono λr h2 hr=>?_;obtain⟨g,z2⟩:=hr;have o:wq h2 r 1 gH ((35::x.text.data.toList.flatMap vE).map vb) g:=z2.get 0 rfl;have hr:=o.read;rw[adp] at hr;refine HC (x:=ofBytes (35::x.text.data.toList.flatMap vE)) (h1:=h2) (by unfold strOf;rw[hr];simp only[BV]) (af.2 ⟨by unfold ofBytes;simp,z2.fr⟩)
 rw[AT (by simpa using k6),AT k6];have cat:∀(c:UInt8),Wp (sh (kY (ofBytes [c]) x.text) λx4=>AI x4) h λr h'=>r.data.toList=c::x.text.data.toList/\Fr (λ_=>False) h h':=λc=>by
  have e:(ofBytes [c]).size=1:=rfl;refine HC (x:=ofBytes [c]++x.text) (h1:=h) (by unfold kY;rw[By (by rw[e];unfold cT;omega)]) (af.2 ⟨?_,Fr.refl hw⟩);rw[akd,ajy];rfl
 by_cases k7:x.kind=7
 .rw[By (by simpa using k7),By k7];exact bj (nd.HS (cat 64))
 rw[AT (by simpa using k7),AT k7];by_cases k8:x.kind=8
 .rw[By (by simpa using k8),By k8];exact bj (nd.HS (cat 37))
 rw[AT (by simpa using k8),AT k8];exact bj (nd.HS (af.2 ⟨rfl,Fr.refl hw⟩))
end
section
variable {N:List ah}{root:Int}{B:Nat}
def br (x:ah):UInt8×UInt8:=if x.kind=10 then (if x.ord then (60,62) else (123,125)) else (91,93)
def tU (F:Int->List UInt8)(x:ah):Bool->ε->List UInt8
 |_,[]=>[]
 |b,k::r=>(if b then [] else [44])++(if x.kind=10 then F (nth x.keys k)++[61] else [])++F (nth x.items k)++tU F x false r
noncomputable def CV (F:Int->List UInt8)(x:ah)(o:ε):List UInt8:=
 if x.kind=11 then 33::x.text.data.toList++[40]++F (nth x.items 0)++[41] else if x.kind<9 then nQ x else [(br x).1]++tU F x true o++[(br x).2]
noncomputable def iB (N:List ah):Nat->Int->List UInt8
 |0,_=>[]
 |f+1,i=>match gt N i with
  |some x=>CV (iB N f) x (gI N i)
  |none=>[]
def tV (F:Int->Nat)(x:ah):ε->Nat
 |[]=>0
 |k::r=>(if x.kind=10 then 1+F (nth x.keys k) else 0)+F (nth x.items k)+tV F x r
noncomputable def ud (x:ah):Nat:=if x.kind=9\/x.kind=10 then 2+(x.items.length-1) else if x.kind=11 then 3+x.text.size else (nQ x).length
noncomputable def xi (N:List ah):Nat->Int->Nat
 |0,_=>0
 |f+1,i=>match gt N i with
  |some x=>ud x+tV (xi N f) x (iota x.items.length)
  |none=>0
theorem I8 {F:Int->Nat}{x:ah}{l l':ε}(h:l.Perm l'):tV F x l=tV F x l':=by
 induction h with
 |nil=>rfl
 |cons a _ ih=>simp only[tV,ih]
 |swap a b l=>simp only[tV];omega
 |trans _ _ h1 h2=>rw[h1,h2]
theorem vu {F G:Int->Nat}{x:ah}:∀{l:ε},(∀a∈l,(x.kind=10->F (nth x.keys a)=G (nth x.keys a))/\F (nth x.items a)=G (nth x.items a))->tV F x l=tV G x l
 |[],_=>rfl
 |a::l,h=>by
  have ih:=vu (l:=l) λb hb=>h b (IN _ hb);obtain⟨h1,h2⟩:=h a IT;unfold tV
  grind
theorem Ou {F:Int->List UInt8}{x:ah}:∀(b:Bool) (l:ε),(tU F x b l).length=tV (λi=>(F i).length) x l+(l.length-(if b then 1 else 0))
 |b,[]=>by cases b<;>rfl
 |b,a::l=>by
  unfold tU tV;simp only[aa8,aac];rw[Ou false l]
  grind
theorem qa {x:ah}(h:jc x=some true):0<=x.kind/\x.kind<=11/\(x.kind<9->x.items=[])/\(x.kind=11->x.items.length=1):=by
 unfold jc at h;by_cases h9:x.kind=9
 .grind
 rw[AT h9] at h;by_cases h10:x.kind=10
 .grind
 rw[AT h10] at h;by_cases h11:x.kind=11
 .grind
 rw[AT h11] at h;by_cases hc:x.ord=false/\x.keys.length=0/\x.items.length=0
 .rw[By hc] at h;have hi:=List.length_eq_zero_iff.1 hc.2.2;refine⟨?_,?_,λ_=>hi,λe=>absurd e h11⟩
  .by_cases hn:0<=x.kind
   .exact hn
   .exfalso;unfold A7 at h
    repeat (rw[AT (by omega)] at h)
    cases h
  .by_cases hn:x.kind<=11
   .exact hn
   .exfalso;unfold A7 at h
    repeat (rw[AT (by omega)] at h)
    cases h
 .rw[AT hc] at h;cases h
theorem Ov (d:Vd N root):∀(f:Nat) (i:Int),IR N.length i->(iB N f i).length=xi N f i:=by
 intro f
 induction f with
 |zero=>intro i _;rfl
 |succ f ih=>
  intro i hi;obtain⟨x,hx⟩:=dA (l:=N) rfl hi;unfold iB xi;rw[hx];simp only;obtain⟨k0,k11,kl,kt⟩:=qa (d.fm x (az hx));have hI:=d.ix x (az hx);unfold CV ud;by_cases h11:x.kind=11
  .rw[By h11,AT (by omega),By h11];have e1:=kt h11;rw[e1];have e2:iota 1=[0]:=rfl;rw[e2];unfold tV tV;rw[AT (by omega)];have e3:=ih (nth x.items 0) (hI.2 _ (iG (by omega) (by omega)));have e4:x.text.data.toList.length=x.text.size:=rfl
   grind
  rw[AT h11];by_cases h9:x.kind<9
  .rw[By h9,AT (by omega),AT h11,kl h9];rfl
  rw[AT h9,By (by omega)];simp only[aa8,aac,adf];rw[Ou true,pn hx];have e:tV (λi=>(iB N f i).length) x (gI N i)=tV (xi N f) x (iota x.items.length):=by
   have ho:gI N i=xh (pY N) x:=by unfold gI;rw[hx]
   rw[<-I8 (Am (pY N) x),ho];refine vu λa ha=>?_;have:=mX ha;exact⟨λhk=>ih _ (hI.1 _ (iG this.1 (by rw[d.map (az hx) hk];exact this.2))),ih _ (hI.2 _ (iG this.1 this.2))⟩
  rw[e];simp only[ai8];omega
theorem D9 (d:Vd N root){H:Int->Nat}(hH:∀u v,Edge N u v->H v<H u):∀(t:Nat) (f g:Nat) (i:Int),t<f->t<g->IR N.length i->H i<=t->xi N f i=xi N g i:=by
 intro t
 induction t with
 |zero=>
  intro f g i hf hg hi ht;obtain⟨f,rfl⟩:∃f',f=f'+1:=⟨f-1,by omega⟩;obtain⟨g,rfl⟩:∃f',g=f'+1:=⟨g-1,by omega⟩;obtain⟨x,hx⟩:=dA (l:=N) rfl hi;unfold xi;rw[hx];simp only;rw[vu λa ha=>?_];exfalso;have h1:=(sF x.items.length).2 a ha;have:=hH i (nth x.items a) ⟨x,hx,.inr (iG h1.1 h1.2)⟩;omega
 |succ t ih=>
  intro f g i hf hg hi ht;obtain⟨f,rfl⟩:∃f',f=f'+1:=⟨f-1,by omega⟩;obtain⟨g,rfl⟩:∃f',g=f'+1:=⟨g-1,by omega⟩;obtain⟨x,hx⟩:=dA (l:=N) rfl hi;have hI:=d.ix x (az hx);unfold xi;rw[hx];simp only;rw[vu λa ha=>?_];have h1:=(sF x.items.length).2 a ha;refine⟨λhk=>?_,?_⟩
  .have hm:=iG (l:=x.keys) h1.1 (by rw[d.map (az hx) hk];exact h1.2);have:=hH i _ ⟨x,hx,.inl hm⟩;exact ih f g _ (by omega) (by omega) (hI.1 _ hm) (by omega)
  .have hm:=iG (l:=x.items) h1.1 h1.2;have:=hH i _ ⟨x,hx,.inr hm⟩;exact ih f g _ (by omega) (by omega) (hI.2 _ hm) (by omega)
end
section
variable {α β:Type}{h h' h0:ab}{L R:List bA}{N:List ah}{root:Int}{B:Nat}{Q:β->ab->Prop}
def tW (n:Nat):Int:=((min n 65537:Nat):Int)
def KOK (lv:Int->Nat)(m:Nat)(K:ε):Prop:=K.length=m/\∀i v,gt K i=some v->v=-1\/v=tW (lv i)
abbrev clL (n:Nat):aV:=aV.at n
def fuL (f:Nat):Nat:=1000+f*100
def ai9 (h0:ab)(tb kb m:Nat)(tc:δ)(N:List ah)(lv:Int->Nat)(H:Int->Nat)(f:Nat):Prop:=∀(n:Nat) (h:ab) (k:Int) (K:ε) (L:List bA),fuL f<=n->IR N.length k->H k<f->KOK lv m K->bA.av tb tc gY∈L->Z h0 h (.av kb (K.map vi) ar::L) ->
 Wp ((clL n).eM (some (ai tb)) k (arr kb m)) h λr h'=>r=tW (lv k)/\∃K',KOK lv m K'/\Z h0 h' (.av kb (K'.map vi) ar::L)
def V7 (c:Int)(s:Nat):Prop:=0<=c/\min c 65537=((min s 65537:Nat):Int)
theorem V7.add {c:Int}{s v:Nat}(h:V7 c s):V7 (c+tW v) (s+v):=by
 unfold V7 tW at *
 omega
theorem V7.one {c:Int}{s:Nat}(h:V7 c s):V7 (c+1) (s+1):=by
 unfold V7 at *
 omega
theorem Mc (v:Nat):0<=tW v/\tW v<=65537:=by unfold tW;omega
theorem ahw {tb kb m:Nat}{tc:δ}{lv:Int->Nat}{H:Int->Nat}{f:Nat}(V:ai9 h0 tb kb m tc N lv H f){x:ah}{a:Addr}{ks is:Sl}(nd:EB h0 a x ks is)(hb:x.items.length<=80)(hk:x.kind=10->x.keys.length=x.items.length)(hI:(∀v∈x.keys,IR N.length v)/\∀v∈x.items,IR N.length v)
  (hH:(∀v∈x.keys,H v<f)/\∀v∈x.items,H v<f) (k0:Int):∀(n i:Nat) (h:ab) (K:ε) (L:List bA) (c:Int) (s:Nat),fuL f+(x.items.length-i)+1<=n->i<=x.items.length->V7 c s->c<=1000000+(i:Int)*200000->KOK lv m K->bA.av tb tc gY∈L->Z h0 h (.av kb (K.map vi) ar::L) ->
  Wp ((clL n).dZ (some (ai tb)) k0 (arr kb m) (some a) c is (x.items.length:Int) (i:Int)) h λr h'=>V7 r (s+tV lv x ((iota x.items.length).drop i))/\∃K',KOK lv m K'/\Z h0 h' (.av kb (K'.map vi) ar::L):=by
 intro n
 induction n with
 |zero=>intro i h K L c s h1;omega
 |succ n ih=>
  intro i h K L c s h1 h2 hc hcb ok ht z;show Wp (lT (clL n) n (some (ai tb)) k0 (arr kb m) (some a) c is (x.items.length:Int) (i:Int)) h _;unfold lT;by_cases hi:i<x.items.length
  .rw[By (by simpa using hi)];obtain⟨iu,hiu⟩:=o5 (l:=x.items) (v:=(i:Int)) (by omega) (by omega);have ndz:=nd.fr z.fr;have hd:(iota x.items.length).drop i=(i:Int)::(iota x.items.length).drop (i+1):=drop_cons (rl hi);have ei:nth x.items (i:Int)=iu:=by unfold nth;rw[hiu];rfl
   rw[hd];refine ndz.items.ix (by omega) (ay hiu).2 λ_ _ c1=>c1.rz (l:=li) rfl rfl ?_;refine bj (ndz.NT ?_);by_cases h10:x.kind=10
   .rw[By (by simpa using h10)];obtain⟨ku,hku⟩:=o5 (l:=x.keys) (v:=(i:Int)) (by omega) (by rw[hk h10];omega);have ek:nth x.keys (i:Int)=ku:=(by unfold nth;rw[hku];rfl);refine bj (ndz.Ip (ndz.keys.ix (by omega) (ay hku).2 λ_ _ c1=>c1.rz (l:=li) rfl rfl ?_));rw[ag];refine (V n h ku K L (by omega) (hI.1 _ (az hku)) (hH.1 _ (az hku)) ok ht z).mono λr h3 hr=>?_;obtain⟨rfl,K1,ok1,z1⟩:=hr;rw[ag];refine (V n h3 iu K1 L (by omega) (hI.2 _ (az hiu)) (hH.2 _ (az hiu)) ok1 ht z1).mono λr h4 hr=>?_;obtain⟨rfl,K2,ok2,z2⟩:=hr;have b1:=Mc (lv ku);have b2:=Mc (lv iu);have hc0:=hc.1;rw[tA (x:=1+tW (lv ku)) (by omega) (by omega),tA (x:=c+(1+tW (lv ku))) (by omega) (by omega),tA (x:=c+(1+tW (lv ku))+tW (lv iu)) (by omega) (by omega),rR (B:=80) (by omega) (by omega)];have hc':V7 (c+(1+tW (lv ku))+tW (lv iu)) (s+(1+lv ku)+lv iu):=by
     have:=((hc.one).add (v:=lv ku)).add (v:=lv iu)
     grind
    refine (ih (i+1) h4 K2 L _ _ (by omega) (by omega) hc' (by push_cast;omega) ok2 ht z2).mono λr h5 hr=>⟨?_,hr.2⟩;unfold tV
    grind
   .rw[AT (by simpa using h10)];rw[ag];refine (V n h iu K L (by omega) (hI.2 _ (az hiu)) (hH.2 _ (az hiu)) ok ht z).mono λr h4 hr=>?_;obtain⟨rfl,K2,ok2,z2⟩:=hr;have b2:=Mc (lv iu);have hc0:=hc.1;rw[tA (x:=c+tW (lv iu)) (by omega) (by omega),rR (B:=80) (by omega) (by omega)];refine (ih (i+1) h4 K2 L _ _ (by omega) (by omega) (hc.add (v:=lv iu)) (by push_cast;omega) ok2 ht z2).mono λr h5 hr=>⟨?_,hr.2⟩;unfold tV
    grind
  .rw[AT (by simpa using hi)];rw[aaf (by rw[ph];omega)];exact af.2 ⟨hc,K,ok,z⟩
theorem KOK.set {lv:Int->Nat}{m:Nat}{K:ε}(ok:KOK lv m K){k:Int}(hk:IR m k):KOK lv m (K.set k.toNat (tW (lv k))):=by
 refine⟨by rw[aiw];exact ok.1,λi v hv=>?_⟩;rw[eQ (by rw[ok.1];exact hk)] at hv;split at hv
 .rename_i e;subst e;exact .inr (aas hv).symm
 .exact ok.2 i v hv
noncomputable def Ea (N:List ah)(H:Int->Nat)(i:Int):Nat:=xi N (H i+1) i
theorem acR (d:Vd N root){H:Int->Nat}(hH:∀u v,Edge N u v->H v<H u){i:Int}{x:ah}(hx:gt N i=some x):Ea N H i=ud x+tV (Ea N H) x (iota x.items.length):=by
 have hi:IR N.length i:=p8 hx;have hI:=d.ix x (az hx);show xi N (H i+1) i=_;unfold xi;rw[hx];simp only;rw[vu λa ha=>?_];have h1:=(sF x.items.length).2 a ha;refine⟨λhk=>?_,?_⟩
 .have hm:=iG (l:=x.keys) h1.1 (by rw[d.map (az hx) hk];exact h1.2);have:=hH i _ ⟨x,hx,.inl hm⟩;exact D9 d hH (H (nth x.keys a)) _ _ _ this (by omega) (hI.1 _ hm) (aae _)
 .have hm:=iG (l:=x.items) h1.1 h1.2;have:=hH i _ ⟨x,hx,.inr hm⟩;exact D9 d hH (H (nth x.items a)) _ _ _ this (by omega) (hI.2 _ hm) (aae _)
theorem ahx (d:Vd N root)(fw:mf N){H:Int->Nat}(hH:∀u v,Edge N u v->H v<H u){tb kb:Nat}{s:Sl}{v1 v2:ξ}(G:oj h0 s N):∀f,ai9 h0 tb kb N.length [aM s,v1,v2] N (Ea N H) H f:=by
 intro f
 induction f with
 |zero=>intro n h k K L _ _ hk;omega
 |succ f V=>
  intro n h k K L hn hkr hkf ok ht z;obtain⟨n,rfl⟩:∃n',n=n'+1:=⟨n-1,by unfold fuL at hn;omega⟩;show Wp (oh (clL n) n (some (ai tb)) k (arr kb N.length)) h _;unfold oh;obtain⟨v,hv⟩:=dA ok.1 hkr;obtain⟨x,hx⟩:=dA (l:=N) rfl hkr;refine z.HO 0 hv ok.1 ?_;by_cases h0':0<=v
  .rw[By (by simpa using h0')];have e:v=tW (Ea N H k):=(ok.2 k v hv).resolve_left (by omega);refine z.HO 0 hv ok.1 (af.2 ⟨e,K,ok,z⟩)
  rw[AT (by simpa using h0')];refine bj ?_;refine z.L4 (o:=0) (l:=.sl) (x:=s) (IN _ ht) rfl rfl ?_;refine G.Yr z (ay hx).1 (ay hx).2 λa ks is nd=>?_;have hI:=d.ix x (az hx);have hbx:=(fw.map x (az hx)).1;have htx:=fw.txt x (az hx);have hlf:=I7 x;have hil:is.len=x.items.length:=nd.items.len;have J1:∀(c:Int) (h:ab),Z h0 h (.av kb (K.map vi) ar::L)->c=((ud x:Nat):Int)->Wp (dE (clL n) n (some (ai tb)) k (arr kb N.length) (some a) c) h λr h'=>r=tW (Ea N H k)/\∃K',KOK (Ea N H) N.length K'/\Z h0 h' (.av kb (K'.map vi) ar::L):=by
   intro c h z hc;subst hc;unfold dE;refine bj ((nd.fr z.fr).CI ?_);rw[hil,ag];have hbl:ud x<=400:=by unfold ud;split<;>(try split)<;>omega
   refine (ahw V nd hbx (d.map (az hx)) hI ⟨λv hv=>by have:=hH k v ⟨x,hx,.inl hv⟩;omega,λv hv=>by have:=hH k v ⟨x,hx,.inr hv⟩;omega⟩ k n 0 h K L _ (ud x) (by unfold fuL at hn⊢;omega) (by omega) ⟨by omega,by omega⟩ (by omega) ok ht z).mono λr h1 hr=>?_;obtain⟨hcap,K',ok',z1⟩:=hr;rw[ahZ,<-acR d hH hx] at hcap;have e:(if decide ((65537:Int)<r)=true then (65537:Int) else r)=tW (Ea N H k):=by
    unfold V7 at hcap;unfold tW
    grind
   have e':(if (65537:Int)<r then (65537:Int) else r)=tW (Ea N H k):=by rw[<-e];simp
   refine JF (b:=kb) (n:=N.length) hkr.1 hkr.2 ?_;rw[adp]
   first
    |rw[e]
    |rw[e']
   refine z1.A2 0 (xs:=K') (enc:=vi) (v:=tW (Ea N H k)) (by rw[ok'.1];have:=hkr.1;have:=hkr.2;omega) λh2 z2=>?_;have ok2:=ok'.set hkr;have hg:gt (K'.set k.toNat (tW (Ea N H k))) k=some (tW (Ea N H k)):=by rw[eQ (by rw[ok'.1];exact hkr),By rfl]
   refine Z.HO z2 0 hg ok2.1 (af.2 ⟨rfl,_,ok2,z2⟩)
  have big:(2:Int)+(if (0:Int)<IntKind.i64.wrap ((x.items.length:Int)-1) then IntKind.i64.wrap ((x.items.length:Int)-1) else 0)=((2+(x.items.length-1):Nat):Int):=by
   rw[tA (by omega) (by omega)];split<;>omega
  refine bj ((nd.fr z.fr).NT ?_);by_cases k9:x.kind=9
  .rw[By (by simpa using k9)];refine bj ((nd.fr z.fr).CI ?_);rw[hil,big,tA (by omega) (by omega)];exact J1 _ h z (by unfold ud;rw[By (.inl k9)])
  rw[AT (by simpa using k9)];by_cases k10:x.kind=10
  .rw[By (by simpa using k10)];refine bj ((nd.fr z.fr).CI ?_);rw[hil,big,tA (by omega) (by omega)];exact J1 _ h z (by unfold ud;rw[By (.inr k10)])
  rw[AT (by simpa using k10)];unfold lU;by_cases k11:x.kind=11
  .rw[By (by simpa using k11)];refine bj ((nd.fr z.fr).HS ?_);rw[tA (by omega) (by omega)];exact J1 _ h z (by unfold ud;rw[AT (by omega),By k11];push_cast;rfl)
  .rw[AT (by simpa using k11)];refine z.call (P:=λr _=>r.data.toList=nQ x) (Tc z.wf (nd.fr z.fr) (by omega) (by unfold fuL at hn;omega)) λr h1 hr f1 z1=>?_;refine J1 _ h1 z1 ?_;unfold ud;rw[AT (by omega),AT k11,<-hr];rfl
end
section
variable {α β:Type}{h h' h0:ab}{L R:List bA}{N:List ah}{root:Int}{B:Nat}{Q:β->ab->Prop}
abbrev clW (n:Nat):aQ:=aQ.at n
def fuW (f:Nat):Nat:=fuE 80+70000+f*100
theorem ZG (f:Nat):fuW (f+1)=fuW f+100:=by unfold fuW;rw[ad8,aiT];rfl
theorem aja {f n:Nat}(h:fuW f<=n):fuE 80<=n:=abi (abi (ajO _ 70000) (ajO _ _)) h
theorem ae2 {f n:Nat}(h:fuW f<=n):70000<=n:=abi (abi (Nat.le_add_left 70000 _) (ajO _ _)) h
def ajb (h0:ab)(t:Ta)(bb:Nat)(N:List ah)(H:Int->Nat)(f:Nat):Prop:=∀(n:Nat) (h:ab) (k:Int) (l:List UInt8) (R L:List bA),fuW f<=n->IR N.length k->H k<f->l.length+(iB N f k).length<=1000000->uC t N L->B0 h0 h bb l (R++L) ->
 Wp ((clW n).fE (some (ai t.tb)) (some (ai bb)) k) h λ_ h'=>∃L',uC t N L'/\Ext L L'/\B0 h0 h' bb (l++iB N f k) (R++L')
theorem B0.z {bb:Nat}{l:List UInt8}(b:B0 h0 h bb l L):Z h0 h L:=by
 obtain⟨p,s,g,_,_,z⟩:=b;exact z.drop.drop
theorem B0.on {bb:Nat}{l:List UInt8}{X:List bA}(b:B0 h0 h bb l X){γ:Type}{M:M γ}{Q:γ->ab->Prop}(q:∀F,Z h0 h (F++X)->(∀h' X',Z h0 h' (F++X')->B0 h0 h' bb l X')->Wp M h Q):Wp M h Q:=by
 obtain⟨p,s,g,h1,h2,z⟩:=b;exact q (BS bb p s l g) z λh' X' z'=>⟨p,s,g,h1,h2,z'⟩
theorem CW {n bb:Nat}{l:List UInt8}(c:UInt8){x:Int}(hx:x=(c.toNat:Int)){X:List bA}(b:B0 h0 h bb l X)(hl:l.length<=1000000){f:ξ->M β}(q:∀v h',B0 h0 h' bb (l++[c]) X->Wp (f v) h' Q):Wp (sh (aB n (some (ai bb)) x) f) h Q:=by
 rw[ag];exact (uD hx b (by unfold cT;omega)).mono λv h' b=>q v h' b
theorem ahy {t:Ta}{bb be:Nat}{H:Int->Nat}{f:Nat}(V:ajb h0 t bb N H f){x:ah}{a:Addr}{ks is:Sl}(nd:EB h0 a x ks is){o:ε}(ho:∀u∈o,0<=u/\u<x.items.length/\(x.kind=10->u<x.keys.length))(hol:o.length<=80)(hI:(∀v∈x.keys,IR N.length v)/\∀v∈x.items,IR N.length v)
  (hH:(∀v∈x.keys,H v<f)/\∀v∈x.items,H v<f) (ends:ζ):∀(n i:Nat) (h:ab) (l:List UInt8) (R L:List bA),fuW f+(o.length-i)+1<=n->i<=o.length->l.length+(tU (iB N f) x (decide (i=0)) (o.drop i)).length<=999999->bA.av be (o.map vi) ar∈L->uC t N L->B0 h0 h bb l (R++L) ->
  Wp ((clW n).eP (some (ai t.tb)) (some (ai bb)) (some a) ends (arr be o.length) (o.length:Int) (i:Int)) h λ_ h'=>∃L',uC t N L'/\Ext L L'/\B0 h0 h' bb (l++tU (iB N f) x (decide (i=0)) (o.drop i)) (R++L'):=by
 intro n
 induction n with
 |zero=>intro i h l R L h1;omega
 |succ n ih=>
  intro i h l R L h1 h2 hl hbe T b;show Wp (mM (clW n) n (some (ai t.tb)) (some (ai bb)) (some a) ends (arr be o.length) (o.length:Int) (i:Int)) h _;unfold mM;by_cases hi:i<o.length
  .rw[By (by simpa using hi)];obtain⟨u,hu⟩:=o5 (l:=o) (v:=(i:Int)) (by omega) (by omega);obtain⟨u1,u2,u3⟩:=ho u (az hu);obtain⟨iu,hiu⟩:=o5 (l:=x.items) u1 u2;have ei:nth x.items u=iu:=by unfold nth;rw[hiu];rfl
   rw[L7 hu] at hl⊢;refine b.z.rdM (acQ _ hbe) hu rfl ?_;have hne:decide (i+1=0)=false:=by simp
   have J1:∀(h:ab) (l2:List UInt8) (L:List bA),l2.length+(iB N f iu).length+(tU (iB N f) x false (o.drop (i+1))).length<=999999->bA.av be (o.map vi) ar∈L->uC t N L->B0 h0 h bb l2 (R++L) ->
     Wp (fj (clW n) n (some (ai t.tb)) (some (ai bb)) (some a) ends u (arr be o.length) (o.length:Int) (i:Int)) h λ_ h'=>∃L',uC t N L'/\Ext L L'/\B0 h0 h' bb (l2++(iB N f iu++tU (iB N f) x false (o.drop (i+1)))) (R++L'):=by
    intro h l2 L hl2 hbe T b;unfold fj;refine bj ?_;have ndz:=nd.fr b.z.fr;refine ndz.CI (ndz.items.ix u1 (ay hiu).2 λ_ _ c1=>c1.rz (l:=li) rfl rfl ?_);rw[ag];refine (V n h iu l2 R L (by omega) (hI.2 _ (az hiu)) (hH.2 _ (az hiu)) (by omega) T b).mono λ_ h3 hr=>?_;obtain⟨L1,T1,E1,b1⟩:=hr;rw[rR (B:=80) (by omega) (by omega)];refine (ih (i+1) h3 _ R L1 (by omega) (by omega) (by rw[hne,aa8];omega) (E1 _ _ hbe) T1 b1).mono λ_ h4 hr=>?_;obtain⟨L2,T2,E2,b2⟩:=hr;rw[hne,abt] at b2;exact⟨L2,T2,E1.trans E2,b2⟩
   have J0:∀(h:ab) (l2:List UInt8),l2.length+((if x.kind=10 then iB N f (nth x.keys u)++[61] else [])++iB N f (nth x.items u)++tU (iB N f) x false (o.drop (i+1))).length<=999999->B0 h0 h bb l2 (R++L) ->
     Wp (fk (clW n) n (some (ai t.tb)) (some (ai bb)) (some a) ends u (arr be o.length) (o.length:Int) (i:Int)) h λ_ h'=>∃L',uC t N L'/\Ext L L'/\B0 h0 h' bb (l2++((if x.kind=10 then iB N f (nth x.keys u)++[61] else [])++iB N f (nth x.items u)++tU (iB N f) x false (o.drop (i+1)))) (R++L'):=by
    intro h l2 hl2 b;unfold fk;rw[ei] at hl2⊢;refine bj ((nd.fr b.z.fr).NT ?_);by_cases hk:x.kind=10
    .rw[By (by simpa using hk)];simp only[By hk] at hl2⊢;obtain⟨ku,hku⟩:=o5 (l:=x.keys) u1 (u3 hk);have ek:nth x.keys u=ku:=(by unfold nth;rw[hku];rfl);rw[ek] at hl2⊢;simp only[aa8,aac,adf] at hl2;have ndz:=nd.fr b.z.fr;refine bj (ndz.Ip (ndz.keys.ix u1 (ay hku).2 λ_ _ c1=>c1.rz (l:=li) rfl rfl ?_));rw[ag];refine (V n h ku l2 R L (by omega) (hI.1 _ (az hku)) (hH.1 _ (az hku)) (by omega) T b).mono λ_ h3 hr=>?_;obtain⟨L1,T1,E1,b1⟩:=hr;refine CW 61 rfl b1 (by rw[aa8];omega) λ_ h4 b2=>?_;refine (J1 h4 _ L1 (by grind) (E1 _ _ hbe) T1 b2).mono λ_ h5 hr=>?_;obtain⟨L2,T2,E2,b3⟩:=hr;refine⟨L2,T2,E1.trans E2,?_⟩
     grind
    .rw[AT (by simpa using hk)];simp only[AT hk,acB,aa8] at hl2⊢;exact J1 h l2 L (by omega) hbe T b
   unfold tU at hl⊢;by_cases h0':i=0
   .subst h0';rw[AT (by simp)];simp only[decide_true,ai8,acB] at hl⊢;exact J0 h l hl b
   .rw[By (by simp;omega)];have e0:decide (i=0)=false:=(by simpa using h0');rw[e0] at hl⊢;simp only[aeZ,afy] at hl⊢;simp only[aa8,aac,adf] at hl;refine CW 44 rfl b (by omega) λ_ h3 b1=>?_;refine (J0 h3 (l++[44]) (by grind) b1).mono λ_ h4 hr=>?_
    grind
  .rw[AT (by simpa using hi)];rw[aaf (by omega)];refine af.2 ⟨L,T,.refl,?_⟩
   grind [tU,iB,decide]
theorem ZH (d:Vd N root)(fw:mf N){H:Int->Nat}(hH:∀u v,Edge N u v->H v<H u){t:Ta}{bb:Nat}(G:oj h0 t.s N):∀f,ajb h0 t bb N H f:=by
 intro f
 induction f with
 |zero=>intro n h k l R L _ _ hk;omega
 |succ f V=>
  intro n h k l R L hn hkr hkf hl T b;rw[ZG] at hn;obtain⟨n,rfl⟩:∃n',n=n'+1:=⟨n-1,by omega⟩;have hT:=ae2 (f:=f) (n:=n) (by omega);show Wp (oZ (clW n) n (some (ai t.tb)) (some (ai bb)) k) h _;unfold oZ;obtain⟨x,hx⟩:=dA (l:=N) rfl hkr;obtain⟨k0,k11,kl,kt⟩:=qa (d.fm x (az hx));have hI:=d.ix x (az hx);have hbx:=(fw.map x (az hx)).1;have htx:=fw.txt x (az hx);have hHx:(∀v∈x.keys,H v<f)/\∀v∈x.items,H v<f:=⟨λv hv=>by have:=hH k v ⟨x,hx,.inl hv⟩;omega,λv hv=>by have:=hH k v ⟨x,hx,.inr hv⟩;omega⟩;have hkey:iB N (f+1) k=CV (iB N f) x (gI N k):=by
   conv=>lhs;unfold iB
   rw[hx]
  rw[hkey] at hl⊢;obtain⟨C,TC⟩:=id T;refine bj ?_;refine b.z.L4 (o:=0) (l:=.sl) (x:=t.s) (acQ _ TC.L8) rfl rfl ?_;refine G.Yr b.z (ay hx).1 (ay hx).2 λa ks is nd=>?_;have ndz:=nd.fr b.z.fr;refine bj (ndz.NT ?_);unfold CV at hl⊢;by_cases h11:x.kind=11
  .rw[By (by simpa using h11)];rw[By h11] at hl⊢;have e1:=kt h11;obtain⟨i0,hi0⟩:=o5 (l:=x.items) (v:=0) (by omega) (by omega);have ei:nth x.items 0=i0:=by unfold nth;rw[hi0];rfl
   rw[ei] at hl⊢;have hts:x.text.data.toList.length=x.text.size:=rfl;simp only[aa8,aac,adf] at hl;refine bj (ndz.HS ?_);have s1:(ofBytes [33]).size=1:=rfl;have s2:(ofBytes [40]).size=1:=rfl;refine HC (x:=ofBytes [33]++x.text) (h1:=h) (by unfold kY;rw[By (by rw[s1];unfold cT;omega)]) ?_;refine HC (x:=ofBytes [33]++x.text++ofBytes [40]) (h1:=h) (by unfold kY;rw[By (by rw[ajk,s1,s2];unfold cT;omega)]) ?_;rw[ag];refine (zX b (by grind [ByteArray.size_append,cT])).mono λ_ h1 b1=>?_;have e2:(ofBytes [33]++x.text++ofBytes [40]).data.toList=33::x.text.data.toList++[40]:=by
    rw[akd,akd,ajy,ajy];rfl
   rw[e2] at b1;have ndz1:=nd.fr b1.z.fr;refine bj (ndz1.CI (ndz1.items.ix (by omega) (ay hi0).2 λ_ _ c1=>c1.rz (l:=li) rfl rfl ?_));rw[ag];refine (V n h1 i0 _ R L (by omega) (hI.2 _ (az hi0)) (hHx.2 _ (az hi0)) (by grind) T b1).mono λ_ h2 hr=>?_;obtain⟨L1,T1,E1,b2⟩:=hr;refine CW 41 rfl b2 (by grind) λ_ h3 b3=>af.2 ⟨L1,T1,E1,?_⟩;simp only[abt] at b3⊢;exact b3
  rw[AT (by simpa using h11)];rw[AT h11] at hl⊢;refine bj (ndz.NT ?_);by_cases h9:x.kind<9
  .rw[By (by simpa using h9)];rw[By h9] at hl⊢;refine b.on λF z back=>?_;refine z.call (P:=λr _=>r.data.toList=nQ x) (Tc z.wf (nd.fr z.fr) (by omega) (by omega)) λr h1 hr f1 z1=>?_;have b1:=back h1 _ z1;rw[ag];have hrs:r.size=(nQ x).length:=by rw[<-hr];rfl
   refine (zX b1 (by rw[hrs];unfold cT;omega)).mono λ_ h2 b2=>af.2 ⟨L,T,.refl,?_⟩;rw[hr] at b2;exact b2
  rw[AT (by simpa using h9)];rw[AT h9] at hl⊢;simp only[aa8,aac,adf] at hl;have hlen:=pn hx;have hord:gI N k=xh (pY N) x:=by unfold gI;rw[hx]
  have J0:∀(c1 c2:UInt8),br x=(c1,c2)->Wp (fh (clW n) n (some (ai t.tb)) (some (ai bb)) k (some a) (ofBytes [c1,c2])) h λ_ h'=>∃L',uC t N L'/\Ext L L'/\B0 h0 h' bb (l++([(br x).1]++tU (iB N f) x true (gI N k)++[(br x).2])) (R++L'):=by
   intro c1 c2 hbr;rw[hbr];unfold fh;rw[ag,fA];refine⟨c1,by omega,rfl,?_⟩;refine CW c1 rfl b (by omega) λ_ h1 b1=>?_;refine b1.on λF z back=>?_;have z':Z h0 h1 ((F++R)++L):=by rw[abt];exact z
   rw[ag];refine (Q9 G d fw.bd fw.ht (fw.sm d) hx n h1 (F++R) L (aja (f:=f) (by omega)) T z').mono λr h2 hr=>?_;obtain⟨be,L1,rfl,hbe,T1,E1,z2⟩:=hr;have b2:=back h2 (R++L1) (by rw[<-abt];exact z2);rw[ag];show Wp ((clW n).eP (some (ai t.tb)) (some (ai bb)) (some a) (ofBytes [c1,c2]) (arr be x.items.length) (x.items.length:Int) 0) h2 _;rw[<-hlen];refine (ahy V nd (o:=gI N k) (λu hu=>by rw[hord] at hu;have:=mX hu;exact⟨this.1,this.2,λe=>by rw[d.map (az hx) e];exact this.2⟩) (by omega) hI hHx (ofBytes [c1,c2]) n 0 h2 _ R L1 (by omega) (by omega) (by grind) hbe T1 b2).mono λ_ h3 hr=>?_;obtain⟨L2,T2,E2,b3⟩:=hr;rw[ag,fA];refine⟨c2,by omega,rfl,?_⟩;simp only[decide_true,ahZ] at b3;refine CW c2 rfl b3 (by grind) λ_ h4 b4=>af.2 ⟨L2,T2,E1.trans E2,?_⟩;simp only[abt] at b4⊢;exact b4
  refine bj (ndz.NT ?_);by_cases h10:x.kind=10
  .rw[By (by simpa using h10)];refine bj (ndz.ldO ?_);cases ho:x.ord with
   |true=>rw[acH];exact J0 60 62 (by unfold br;rw[By h10,ho];rfl)
   |false=>rw[ahk];exact J0 123 125 (by unfold br;rw[By h10,ho];rfl)
  .rw[AT (by simpa using h10)];exact J0 91 93 (by unfold br;rw[AT h10])
end
section
variable {α β:Type}{h h' h0:ab}{L R:List bA}{N:List ah}{root:Int}{B:Nat}{Q:β->ab->Prop}
theorem ZI {s:Sl}{root:Int}{N:List ah}(z:Z h0 h L)(G:oj h0 s N){B:Nat}(hB:Bd N B)(ht:∀x∈N,x.text.size<=65536){k n:Nat}(hn:k+4*B+65600<n)(hv:me k N root=some 0){d:Int}{a:Bool}(hd:dep k N root=some (d,a)) :
  Wp (vR n (s,root)) h λx h'=>x=(d,a)/\Z h0 h' L:=by
 unfold vR;refine z.new λx0 h1 z _=>?_;refine z.fG 0 (ls:=[.sl,li]) (x:=(s,root)) ?_;rw[ag];refine (zT z G hB ht hn hv).mono λy h2 hy=>?_;obtain⟨rfl,z⟩:=hy;rw[AT (by simp)];refine z.fG 0 (ls:=[.sl,li]) (x:=(s,root)) ?_;rw[ag];refine (Od z G hB (k:=k) (by omega) (by omega) hd).mono λy h3 hy=>?_;obtain⟨rfl,z⟩:=hy;rw[af];exact⟨rfl,z.drop⟩
theorem ahz {s:Sl}{root:Int}{N:List ah}(z:Z h0 h L)(G:oj h0 s N){B:Nat}(hB:Bd N B)(ht:∀x∈N,x.text.size<=65536){k n:Nat}(hn:k+4*B+65600<n){r0:Int}(hv:me k N root=some r0){d:Int}{a:Bool}(hd:r0=0->dep k N root=some (d,a)) :
  Wp (sT n (s,root)) h λx h'=>x=(if r0≠0 then 3 else if a then 0 else 14)/\Z h0 h' L:=by
 unfold sT;refine z.new λx0 h1 z _=>?_;refine z.fG 0 (ls:=[.sl,li]) (x:=(s,root)) ?_;rw[ag];refine (zT z G hB ht hn hv).mono λy h2 hy=>?_;obtain⟨rfl,z⟩:=hy;by_cases h0':y=0
 .subst h0';rw[AT (by simp),AT (by simp)];refine z.fG 0 (ls:=[.sl,li]) (x:=(s,root)) ?_;rw[ag];refine (ZI z G hB ht hn hv (hd rfl)).mono λy h3 hy=>?_;obtain⟨rfl,z⟩:=hy;cases a
  .exact af.2 ⟨rfl,z.drop⟩
  .exact af.2 ⟨rfl,z.drop⟩
 .rw[By (by simpa using h0'),By h0'];exact af.2 ⟨rfl,z.drop⟩
theorem ZJ {m b:Nat}(hm:m<1073741824)(a0:Addr)(a1:θ) :
  ∀(n i:Nat) (h:ab) (L:List bA),m-i<n->i<=m->Z h0 h (.av b ((List.replicate i (-1)++List.replicate (m-i) 0).map vi) ar::L) ->
   Wp (oO n a0 a1 (arr b m) (m:Int) (i:Int)) h λ_ h'=>Z h0 h' (.av b ((List.replicate m (-1:Int)).map vi) ar::L):=by
 intro n
 induction n with
 |zero=>intro i h L h1;omega
 |succ n ih=>
  intro i h L h1 h2 z;rw[CB];unfold vn;by_cases hi:i<m
  .rw[By (by simp;omega)];refine JF (b:=b) (n:=m) (by omega) (by omega) ?_;rw[aab,adp];refine z.A2 0 (xs:=List.replicate i (-1)++List.replicate (m-i) 0) (enc:=vi) (v:=(-1:Int)) (by simp;omega) (λh3 z=>?_);have hf:(List.replicate i (-1:Int)++List.replicate (m-i) 0).set i (-1)=List.replicate (i+1) (-1)++List.replicate (m-(i+1)) 0:=by
    rw[ajj _ _ (by simp),aeL,ai5,show m-i=(m-(i+1))+1 by omega,aiK,ahV,akl (n:=i),abt];rfl
   rw[hf] at z;rw[rR h2 (by omega)];exact ih (i+1) h3 L (by omega) (by omega) z
  .rw[AT (by simp;omega),af];have:i=m:=by omega
   subst this;simpa using z
noncomputable def VN (N:List ah)(root:Int)(r0:Int)(a:Bool):ζ×Int:=
 if r0≠0 then (ofBytes [],3) else if a=false then (ofBytes [],14) else if 65536<(iB N 100 root).length then (ofBytes [],6) else (ofBytes (iB N 100 root),0)
def fuK:Nat:=fuW 100+80000
theorem ZK {s:Sl}(hw:WF h)(G:oj h s N)(fw:mf N){k:Nat}(hk:gK N.length 80<=k){r0:Int}(hc:me k N root=some r0){d:Int}{a:Bool}(hd:r0=0->dep k N root=some (d,a))
  (hr:r0=0->a=true->∃H:Int->Nat,(∀u,H u<=60)/\∀u v,Edge N u v->H v<H u) {n:Nat} (hn:fuK<=n) (hn2:k+66000<n) :
  Wp (w7 n (s,root)) h λr h'=>r=VN N root r0 a/\Fr (λ_=>False) h h':=by
 have hWn:fuW 100<=n:=abi (ajO _ _) hn;have hl:=fw.len;unfold w7 VN;refine (Z.start hw).new λx0 h1 z _=>?_;refine z.fG 0 (ls:=[.sl,li]) (x:=(s,root)) ?_;rw[ag];refine (ahz z G fw.bd fw.ht (k:=k) (by omega) hc hd).mono λy h2 hy=>?_;obtain⟨rfl,z⟩:=hy;by_cases h0':r0=0
 .subst h0';rw[AT (show ¬((0:Int)≠0) by simp),AT (show ¬((0:Int)≠0) by simp)];cases a with
  |false=>exact af.2 ⟨rfl,z.fr⟩
  |true=>
   rw[acH,AT (by simp),AT (by simp)];obtain⟨H,hH1,hH2⟩:=hr rfl rfl;have vd:Vd N root:=Al fw.bd.2.2 fw.bd.1 (by omega) hk hc;refine z.fG 0 (ls:=[.sl,li]) (x:=(s,root)) ?_;have hsl:s.len=N.length:=G.len;rw[ag];refine (of_wp (s:=s) (root:=root) z (by rw[hsl];unfold cT;omega)).mono λx4 h3 hx=>?_;obtain⟨tb,sb,rfl,z⟩:=hx;rw[hsl] at z;refine z.ld 2 (o:=0) (l:=.sl) (x:=s) ?_;rw[hsl];refine z.JE (by omega) (by unfold cT;omega) λkb h4 z _=>?_;rw[aab] at z⊢;rw[lj (enc:=vi) (x:=(0:Int))] at z;have z0:Z h h4 (.av kb ((List.replicate 0 (-1)++List.replicate (N.length-0) 0).map vi) ar::.av tb [aM s,vi root,aM (arr sb N.length)] gY::.av sb (List.replicate N.length bF) bt::.av x0 [aM s,vi root] ao::[]):=by simpa using z
   rw[ag];refine (ZJ (by omega) (ai x0) (some (ai tb)) n 0 h4 _ (by omega) (by omega) z0).mono λ_ h5 z=>?_;refine z.ld 3 (o:=1) (x:=root) ?_;rw[ag];have lw:=ahx (h0:=h) (tb:=tb) (kb:=kb) (v1:=vi root) (v2:=aM (arr sb N.length)) vd fw hH2 G 100;have hLn:fuL 100<=n:=abi (by unfold fuL;decide) (ae2 hWn);have h60:=hH1 root;have kok:KOK (Ea N H) N.length (List.replicate N.length (-1)):=⟨by simp,λi v hv=>.inl (aiH (az hv))⟩;refine (lw n h5 root (List.replicate N.length (-1)) _ hLn vd.rt (by omega) kok IT z).mono λr h6 hr=>?_;obtain⟨rfl,K',_,z⟩:=hr;have hlen:Ea N H root=(iB N 100 root).length:=by
    rw[Ov vd _ _ vd.rt];exact D9 vd hH2 (H root) _ _ root (by omega) (by omega) vd.rt (aae _)
   rw[hlen];by_cases hbig:65536<(iB N 100 root).length
   .rw[By (by unfold tW;simp;omega),By hbig];exact af.2 ⟨rfl,z.fr⟩
   .rw[AT (by unfold tW;simp;omega),AT hbig];refine Tb z λbb h7 b=>?_;obtain⟨p,s',g,q1,q2,zz⟩:=id b;refine zz.ld 5 (o:=1) (x:=root) ?_;rw[ag];have tt:uC ⟨tb,sb,s,root⟩ N [.av tb [aM s,vi root,aM (arr sb N.length)] gY,.av sb (List.replicate N.length bF) bt,.av x0 [aM s,vi root] ao]:=acO IT (IN _ IT);refine (ZH (h0:=h) (t:=⟨tb,sb,s,root⟩) (bb:=bb) vd fw hH2 G 100 n h7 root [] [.av kb (K'.map vi) ar] _ hWn vd.rt (by omega) (by rw[adf];omega) tt b).mono λ_ h8 hr=>?_;obtain⟨L',_,_,b8⟩:=hr;rw[acB] at b8;rw[ag];exact (I6 b8 (by omega)).mono λr h9 hr=>af.2 ⟨by rw[hr.1],hr.2.fr⟩
 .rw[By h0',By h0',By (by simp)];exact af.2 ⟨rfl,z.fr⟩
end
section
variable {N:List ah}{root:Int}{B:Nat}
theorem Md {A:ε}:∀{xs:ε},(∀v∈xs,IR A.length v)->∃ys,Hn A xs=some ys
 |[],_=>⟨[],rfl⟩
 |x::xs,h=>by
  obtain⟨v,hv⟩:=dA (l:=A) rfl (h x IT);obtain⟨ys,hy⟩:=Md (xs:=xs) λw hw=>h w (IN _ hw);exact⟨v::ys,by rw[Hn,hv,hy]⟩
theorem ZL {A:ε}:∀{ms:List Bool} {X:List ah},ms.length=X.length->rI X A.length->∃R,kN A ms X=some R
 |[],[],_,_=>⟨[],by rw[kN]⟩
 |b::ms,x::X,hl,hI=>by
  obtain⟨R,hR⟩:=ZL (ms:=ms) (X:=X) (by simpa using hl) λy hy=>hI y (IN _ hy);obtain⟨h1,h2⟩:=hI x IT;obtain⟨ks,hk⟩:=Md (A:=A) h1;obtain⟨is,hi⟩:=Md (A:=A) h2;rw[kN]
  grind
theorem Me {A:ε}:∀{ms:List Bool} {X R:List ah} {n:Nat},kN A ms X=some R->ms.length=X.length->∀(j:Nat) (y:ah),R[j]?=some y ->
  ∃(i:Nat) (x:ah),ms[i]?=some true/\X[i]?=some x/\(rH ms n)[i]?=some ((n+j:Nat):Int)/\y.kind=x.kind/\y.text=x.text/\y.ord=x.ord/\Hn A x.keys=some y.keys/\Hn A x.items=some y.items
 |[],[],R,n,h,_,j,y,hy=>by rw[kN] at h;cases h;simp at hy
 |b::ms,x::X,R,n,h,hl,j,y,hy=>by
  rw[kN] at h;cases b with
  |false=>
   rw[AT (by simp)] at h;obtain⟨i,x',h1,h2,h3,h4⟩:=Me (n:=n) h (by simpa using hl) j y hy;exact⟨i+1,x',by simpa using h1,by simpa using h2,by rw[rH,AT (by simp)];simpa using h3,h4⟩
  |true=>
   rw[By rfl] at h;split at h
   .rename_i ks is r e1 e2 e3;cases h;cases j with
    |zero=>
     simp at hy;subst hy;exact⟨0,x,rfl,rfl,by rw[rH];rfl,rfl,rfl,rfl,e1,e2⟩
    |succ j=>
     obtain⟨i,x',h1,h2,h3,h4⟩:=Me (n:=n+1) e3 (by simpa using hl) j y (by simpa using hy);exact⟨i+1,x',by simpa using h1,by simpa using h2,by
      rw[rH,By rfl,ahM,h3]
      congr 2;omega,h4⟩
   .cases h
theorem Rb:∀{ms:List Bool} {n i:Nat} {v:Int},(rH ms n)[i]?=some v->(n:Int)<=v
 |[],n,i,v,h=>by rw[rH] at h;simp at h
 |b::ms,n,0,v,h=>by rw[rH] at h;simp at h;omega
 |b::ms,n,i+1,v,h=>by
  rw[rH] at h;have:=Rb (ms:=ms) (by simpa using h);split at this<;>omega
theorem Mf:∀{ms:List Bool} {n i j:Nat} {v:Int},ms[i]?=some true->ms[j]?=some true->(rH ms n)[i]?=some v->(rH ms n)[j]?=some v->i=j
 |[],n,i,j,v,h,_,_,_=>by simp at h
 |b::ms,n,0,0,v,_,_,_,_=>rfl
 |b::ms,n,0,j+1,v,h1,h2,h3,h4=>by
  simp at h1;subst h1;rw[rH] at h3 h4;simp at h3;subst h3;rw[By rfl] at h4;have:=Rb (ms:=ms) (n:=n+1) (i:=j) (by simpa using h4);omega
 |b::ms,n,i+1,0,v,h1,h2,h3,h4=>by
  simp at h2;subst h2;rw[rH] at h3 h4;simp at h4;subst h4;rw[By rfl] at h3;have:=Rb (ms:=ms) (n:=n+1) (i:=i) (by simpa using h3);omega
 |b::ms,n,i+1,j+1,v,h1,h2,h3,h4=>by
  rw[rH] at h3 h4;have:=Mf (ms:=ms) (n:=if b=true then n+1 else n) (i:=i) (j:=j) (v:=v) (by simpa using h1) (by simpa using h2) (by simpa using h3) (by simpa using h4);omega
theorem acT {A:ε}{xs ys:ε}(h:Hn A xs=some ys){v:Int}(hv:v∈ys):∃w∈xs,gt A w=some v:=by
 obtain⟨i,hi⟩:=List.mem_iff_getElem?.1 hv;have hl:=vX h;have hlt:=(List.getElem?_eq_some_iff.1 hi).1;obtain⟨x,hx⟩:=dS (l:=xs) (i:=i) (by omega)
 grind [LO,List.mem_of_getElem?]
theorem HD (d:Vd N root)(fw:mf N){k:Nat}(hk:gK N.length 80<=k){v:Int}(kv:KN N v):∃N' r,kept k N v=some (N',r)/\mf N'/\∃H:Int->Nat,(∀u,H u<=60)/\∀u w,Edge N' u w->H w<H u:=by
 obtain⟨H,hH1,hH2⟩:=d.Vy;have hvr:=kv.ir d.ix;have hcf:cf (List.replicate N.length false)=N.length:=by unfold cf;simp
 have hk1:N.length*(80+2)+1<=k:=by
  grind [gK,Nat.mul_le_mul_left,Nat.add_mul]
 obtain⟨ms,em,pm⟩:=(CP (n:=N.length) (W:=λ_ u=>KN N u) d.ix fw.bd.2.2 (λt u w q e=>.step q e) k).1 v (List.replicate N.length false) (by simp) hvr (by rw[hcf];omega);have hml:ms.length=N.length:=by rw[pm.len];simp
 have hAl:(rH ms 0).length=N.length:=by rw[CN,hml]
 obtain⟨r,hr⟩:=dA (l:=rH ms 0) hAl hvr;obtain⟨R,hR⟩:=ZL (A:=rH ms 0) (ms:=ms) (X:=N) hml (by rw[hAl];exact d.ix);have hmark:∀u,gt ms u=some true->KN N u:=λu hu=>by
  rcases pm.snd 0 (λw hw=>by rw[hw];exact kv) (by rw[hcf];omega) u hu with h|⟨_,_,h⟩
  .have:=zU h;cases this
  .exact h
 have hclo:∀u,gt ms u=some true->∀w,Edge N u w->gt ms w=some true:=λu hu w e=>by
  rcases pm.Vz u hu with h|h
  .have:=zU h;cases this
  .exact h w e
 have inv:=λ(j:Nat) (y:ah)=>Me (n:=0) hR hml j y;refine⟨R,r,by unfold kept;rw[em];simp only;rw[hr,hR],⟨by have:=LP hR;have:=fw.len;omega,λy hy=>?_,λy hy=>?_⟩,?_⟩
 .obtain⟨j,hj⟩:=List.mem_iff_getElem?.1 hy;obtain⟨i,x,_,hx,_,_,_,_,e1,e2⟩:=inv j y hj;rw[vX e1,vX e2];exact fw.map x (BY hx)
 .obtain⟨j,hj⟩:=List.mem_iff_getElem?.1 hy;obtain⟨i,x,_,hx,_,_,e,_⟩:=inv j y hj;rw[e];exact fw.txt x (BY hx)
 .have hex:∀j:Int,∃u:Int,(∃u',gt ms u'=some true/\gt (rH ms 0) u'=some j)->gt ms u=some true/\gt (rH ms 0) u=some j:=λj=>by
   by_cases h:∃u',gt ms u'=some true/\gt (rH ms 0) u'=some j
   .obtain⟨u,hu⟩:=h;exact⟨u,λ_=>hu⟩
   .exact⟨0,λq=>absurd q h⟩
  obtain⟨U,hU⟩:=ajA hex;have uniq:∀u j,gt ms u=some true->gt (rH ms 0) u=some j->U j=u:=λu j h1 h2=>by
   obtain⟨h3,h4⟩:=hU j ⟨u,h1,h2⟩;have:=Mf (ay h3).2 (ay h1).2 (ay h4).2 (ay h2).2;have a1:=(ay h3).1;have a2:=(ay h1).1;omega
  refine⟨λj=>H (U j),λu=>by grind [fw.len],λj w e=>?_⟩;obtain⟨y,hy,hw⟩:=e;obtain⟨hj0,hy2⟩:=ay hy;obtain⟨i,x,hm,hx,ha,_,_,_,e1,e2⟩:=inv j.toNat y hy2;have hgi:gt ms (i:Int)=some true:=by unfold gt;rw[By (by omega),aab];exact hm
  have hgx:gt N (i:Int)=some x:=by unfold gt;rw[By (by omega),aab];exact hx
  have hga:gt (rH ms 0) (i:Int)=some j:=by
   unfold gt;rw[By (by omega),aab,ha];congr 1;omega
  have hu:=uniq _ _ hgi hga;have go:∃q,(q∈x.keys\/q∈x.items)/\gt (rH ms 0) q=some w:=by
   grind [acT]
  obtain⟨q,q1,q2⟩:=go;have eq:Edge N (i:Int) q:=⟨x,hgx,q1⟩
  grind
end
section
variable {N N':List ah}{root v r:Int}{B k:Nat}{A:ε}
theorem Mg:∀{xs ys:ε},Hn A xs=some ys->ys=xs.map λu=>(gt A u).getD 0
 |[],ys,h=>by cases h;rfl
 |x::xs,ys,h=>by
  rw[Hn] at h;cases h1:gt A x with
  |none=>rw[h1] at h;cases h
  |some v=>
   cases h2:Hn A xs with
   |none=>rw[h1,h2] at h;cases h
   |some r=>
    rw[h1,h2] at h;cases h;rw[adq,<-Mg h2,h1];rfl
theorem Rc:∀{ms:List Bool} {X R:List ah} {n i:Nat} {x:ah},kN A ms X=some R->ms[i]?=some true->X[i]?=some x ->
  ∃(j:Nat) (y:ah),R[j]?=some y/\(rH ms n)[i]?=some ((n+j:Nat):Int)/\y.kind=x.kind/\y.text=x.text/\y.ord=x.ord/\Hn A x.keys=some y.keys/\Hn A x.items=some y.items
 |[],X,R,n,i,x,_,h,_=>by simp at h
 |b::ms,[],R,n,i,x,_,_,h=>by simp at h
 |b::ms,z::X,R,n,i,x,h,hm,hx=>by
  rw[kN] at h;cases b with
  |false=>
   rw[AT (by simp)] at h;cases i with
   |zero=>simp at hm
   |succ i=>
    obtain⟨j,y,h1,h2,h3⟩:=Rc (n:=n) h (by simpa using hm) (by simpa using hx);exact⟨j,y,h1,by rw[rH,AT (by simp)];simpa using h2,h3⟩
  |true=>
   rw[By rfl] at h;split at h
   .rename_i ks is R' e1 e2 e3;cases h;cases i with
    |zero=>
     simp at hx;subst hx;exact⟨0,_,rfl,by rw[rH];rfl,rfl,rfl,rfl,e1,e2⟩
    |succ i=>
     obtain⟨j,y,h1,h2,h3⟩:=Rc (n:=n+1) e3 (by simpa using hm) (by simpa using hx);exact⟨j+1,y,by simpa using h1,by
      rw[rH,By rfl,ahM,h2]
      congr 2;omega,h3⟩
   .cases h
theorem ZM (g:GV N root)(hB:∀x∈N,x.keys.length<=B/\x.items.length<=B)(hk:gK N.length B<=k)(hv:IR N.length v)(h:kept k N v=some (N',r)):∃φ,BU N v N' φ/\φ v=r/\∀u x,iV N v u->gt N u=some x->∃x',gt N' (φ u)=some x'/\x'.keys=x.keys.map φ/\x'.items=x.items.map φ:=by
 have hcf:cf (List.replicate N.length false)=N.length:=by unfold cf;simp
 have hk1:N.length*(B+2)+1<=k:=by
  grind [gK,Nat.mul_le_mul_left,Nat.add_mul]
 obtain⟨ms,em,pm⟩:=(CP (n:=N.length) (W:=λ_ u=>iV N v u) g.ix hB (λt u w q e=>.step q e) k).1 v (List.replicate N.length false) (by simp) hv (by rw[hcf];omega);have hml:ms.length=N.length:=by rw[pm.len];simp
 have hAl:(rH ms 0).length=N.length:=by rw[CN,hml]
 unfold kept at h;rw[em] at h;simp only at h;cases hr:gt (rH ms 0) v with
 |none=>rw[hr] at h;cases h
 |some r'=>
 cases hR:kN (rH ms 0) ms N with
 |none=>rw[hr,hR] at h;cases h
 |some R=>
 rw[hr,hR] at h;cases h;have mk:∀u,iV N v u->gt ms u=some true:=λu w=>by
  induction w with
  |refl=>exact pm.at' _ rfl
  |step _ e ih=>
   rcases pm.Vz _ ih with q|q
   .have:=zU q;cases this
   .exact q _ e
 have ka:∀u,gt ms u=some true->iV N v u:=λu hu=>by
  rcases pm.snd 0 (λw hw=>by rw[hw];exact .refl) (by rw[hcf];omega) u hu with q|⟨_,_,q⟩
  .have:=zU q;cases this
  .exact q
 have nd:∀u x,iV N v u->gt N u=some x->∃x',gt N' ((gt (rH ms 0) u).getD 0)=some x'/\x'.kind=x.kind/\x'.text=x.text/\x'.ord=x.ord/\x'.keys=x.keys.map (λu=>(gt (rH ms 0) u).getD 0)/\x'.items=x.items.map λu=>(gt (rH ms 0) u).getD 0:=λu x hu hx=>by
  obtain⟨m0,m1⟩:=ay (mk u hu);obtain⟨j,y,h1,h2,h3,h4,h5,h6,h7⟩:=Rc (n:=0) hR m1 (ay hx).2;have e:gt (rH ms 0) u=some (j:Int):=by unfold gt;rw[By m0,h2];simp
  exact⟨y,by rw[e];show gt N' (j:Int)=_;unfold gt;grind,h3,h4,h5,Mg h6,Mg h7⟩
 refine⟨λu=>(gt (rH ms 0) u).getD 0,⟨λu x hu hx=>?_,λu w hu hw e=>?_,λw hw=>?_,LP hR⟩,by simp only;rw[hr];rfl,λu x hu hx=>?_⟩
 .obtain⟨y,h1,h2,h3,h4,h5,h6⟩:=nd u x hu hx;refine⟨y,h1,h2,h3,h4,iota x.items.length,.refl _,λ_=>rfl,by grind [An,gt,rH],?_⟩;by_cases hk10:x.kind=10
  .rw[By hk10,<-g.zV (az hx) hk10,h5];grind [An,gt,rH]
  .rw[AT hk10,h5,sG (g.fm x (az hx)) hk10];rfl
 .obtain⟨a,ha⟩:=dA (l:=rH ms 0) hAl (hu.ir g.ix hv);obtain⟨b,hb⟩:=dA (l:=rH ms 0) hAl (hw.ir g.ix hv);simp only[ha,hb,akG] at e;subst e;have:=Mf (ay (mk u hu)).2 (ay (mk w hw)).2 (ay ha).2 (ay hb).2;have h1:=(ay ha).1;have h2:=(ay hb).1;omega
 .obtain⟨y,hy⟩:=dA (l:=N') rfl hw;obtain⟨i,x,h1,_,h3,_⟩:=Me (n:=0) hR hml w.toNat y (ay hy).2;have e:gt (rH ms 0) (i:Int)=some w:=by
   unfold gt;rw[By (by omega),aab,h3];congr 1;have:=hw.1;omega
  exact⟨(i:Int),ka _ (by unfold gt;grind),by grind⟩
 grind
end
section
variable {α β:Type}{h h' h0:ab}{L R:List bA}{N:List ah}{root:Int}{B:Nat}{Q:β->ab->Prop}
def KF:Nat:=7000
theorem mf.k0 (f:mf N):gK N.length 80<=KF:=by
 grind [f.len,Nat.mul_le_mul,gK,KF]
theorem mf.tot (f:mf N)(root:Int):∃r,me KF N root=some r:=Hs f.bd.2.2 f.bd.1 (by omega) f.k0
theorem mf.dep (f:mf N)(h:me KF N root=some 0):∃d a,dep KF N root=some (d,a):=by
 have d:=Al f.bd.2.2 f.bd.1 (by omega) f.k0 h;have hk:=f.k0;obtain⟨dd,a,e,_⟩:=Zg (k:=KF) d.ix d.rt f.bd.2.2 d.le f.bd.1 (λv hv=>let ⟨_,_,w⟩:=d.wk v hv;w.rch) (by unfold gK at hk;rw[ad8] at hk;omega);exact⟨dd,a,e⟩
noncomputable def gc (N:List ah)(root:Int):Int:=(me KF N root).getD 3
noncomputable def gd (N:List ah)(root:Int):Bool:=((dep KF N root).map (·.2)).getD false
theorem mf.gc (f:mf N)(root:Int):me KF N root=some (gc N root):=by
 obtain⟨r,e⟩:=f.tot root;unfold Sh.gc;rw[e];rfl
noncomputable def AW (N:List ah)(root v:Int):ζ:=
 if gc N root=0 then (match kept KF N v with
  |some (N',r)=>(VN N' r (gc N' r) (gd N' r)).1
  |none=>ofBytes [])
 else ofBytes []
def Rd:Nat:=fuK+1000
theorem ajd {n:Nat}(h:Rd<=n):fuK<=n/\KF+4*80+65600<n/\KF+66000<n:=by
 have h1:80000<=fuK:=Nat.le_add_left _ _;have h2:Rd=fuK+1000:=rfl;have h3:KF=7000:=rfl
 grind
theorem acU {s:Sl}{node:Int}(z:Z h0 h L)(G:oj h0 s N)(fw:mf N){n:Nat}(hn:KF+4*80+65600<n)(hc:gc N root≠0):Wp (sA n (s,root) node) h λx h'=>x=((uV,0),3)/\Z h0 h' L:=by
 unfold sA;refine z.new λx0 h1' z _=>z.new λx1 h2' z _=>?_;refine z.fG 1 (ls:=[.sl,li]) (x:=(s,root)) ?_;rw[ag];refine (zT z G fw.bd fw.ht (k:=KF) hn (fw.gc root)).mono λy h3 hy=>?_;obtain⟨rfl,z⟩:=hy;rw[By (by simpa using hc)];refine z.st 0 (cs':=[bF,vi 0]) λh4 z=>?_;refine z.fG 0 (ls:=[.sl,li]) (x:=(uV,0)) (af.2 ⟨rfl,z.drop.drop⟩)
theorem Td:mf []:=⟨by simp,by simp,by simp⟩
theorem ahA {s:Sl}(hs:s.len=0):oj h s []:=⟨[],0,rfl,rO.nil hs,by simp⟩
theorem VO {s:Sl}{v:Int}(z:Z h0 h L)(G:oj h0 s N)(fw:mf N)(kv:gc N root=0->KN N v)(hv:IR N.length v){n:Nat}(hn:Rd<=n){f:ζ×Int->M β}(q:∀x h',x.1=AW N root v->Z h0 h' L->Wp (f x) h' Q) :
  Wp (sh (sA n (s,root) v) λx3=>sh (aJ none ao [bF,vi 0]) λx4=>sh (bD (ai x4) [aM x3.1.1,vi x3.1.2]) λ_=>sh (aE [.sl,li] (ai x4)) λ(x6:Sl×Int)=>sh (w7 n (x6.1,x6.2)) f) h Q:=by
 obtain⟨hn1,hn2,hn3⟩:=ajd hn;unfold AW at q;by_cases h0':gc N root=0
 .rw[By h0'] at q;have hc:=fw.gc root;rw[h0'] at hc;have d:=Al fw.bd.2.2 fw.bd.1 (by omega) fw.k0 hc;obtain⟨N',r,ek,fw',H,hH1,hH2⟩:=HD d fw fw.k0 (kv h0');rw[ek] at q;simp only at q;rw[ag];refine (agO z G fw.bd fw.ht (k:=KF) hn2 hc hv.1 hv.2 ek).mono λx h1 hx=>?_;obtain⟨out,g,R,rfl,eR,z1⟩:=hx;refine z1.new λx4 h2 z2 _=>z2.st 0 (cs':=[aM out,vi r]) λh3 z3=>?_;refine z3.fG 0 (x:=((out,r):eI [.sl,li])) ?_;have Gs:oj h3 out N':=by rw[<-eR];exact agN z3.drop
  have hgd:gc N' r=0->∃d,dep KF N' r=some (d,gd N' r):=λe=>by
   have:=fw'.gc r;rw[e] at this;obtain⟨dd,a,e2⟩:=fw'.dep this;exact⟨dd,by unfold gd;rw[e2];rfl⟩
  obtain⟨dd,hdd⟩:∃dd,gc N' r=0->dep KF N' r=some (dd,gd N' r):=by
   by_cases e:gc N' r=0
   .obtain⟨dd,e2⟩:=hgd e;exact⟨dd,λ_=>e2⟩
   .exact⟨0,λq=>absurd q e⟩
  refine z3.call (P:=λx _=>x=VN N' r (gc N' r) (gd N' r)) (ZK z3.wf Gs fw' (k:=KF) fw'.k0 (fw'.gc r) hdd (λ_ _=>⟨H,hH1,hH2⟩) hn1 hn3) λx h4 hx f4 z4=>?_;subst hx;exact q _ h4 rfl (z4.drop.drop.sub (ag9 _ _))
 .rw[AT h0'] at q;rw[ag];refine (acU z G fw hn2 h0').mono λx h1 hx=>?_;obtain⟨rfl,z1⟩:=hx;refine z1.new λx4 h2 z2 _=>z2.st 0 (cs':=[bF,vi 0]) λh3 z3=>?_;refine z3.fG 0 (x:=((uV,0):eI [.sl,li])) ?_;have e3:me KF [] 0=some 3:=rfl;refine z3.call (P:=λx _=>x=VN [] 0 3 false) (ZK z3.wf (ahA rfl) Td (k:=KF) Td.k0 e3 (d:=0) (a:=false) (λe=>by cases e) (λe=>by cases e) hn1 hn3) λx h4 hx f4 z4=>?_;subst hx;exact q _ h4 rfl z4.drop
end
section
variable {N N':List ah}{root v:Int}{φ:Int->Int}{x x':ah}
theorem HG {F:Int->Nat}{x:ah}:∀l:ε,tV F x l=(l.map λk=>(if x.kind=10 then 1+F (nth x.keys k) else 0)+F (nth x.items k)).sum
 |[]=>rfl
 |k::l=>by rw[tV,HG l,adq,ak6]
theorem HH (I:BU N v N' φ)(g:GV N root)(hv:IR N.length v):∀(f:Nat) (u:Int),iV N v u->xi N' f (φ u)=xi N f u
 |0,_,_=>rfl
 |f+1,u,hu=>by
  obtain⟨x,hx⟩:=dA (l:=N) rfl (I.ir g hv hu).1;obtain⟨x',hx',E⟩:=I.nd u x hu hx;unfold xi;rw[hx,hx'];simp only;have hil:=E.il;have eb:ud x'=ud x:=by unfold ud nQ;rw[E.k,E.t,hil]
  rw[eb,hil]
  congr 1
  obtain⟨o,h1,_,h3,h4⟩:=E.e;have lo:o.length=x.items.length:=by rw[h1.length_eq,ph]
  rw[<-I8 (x:=x) h1,HG,HG];have:=An (ψ:=λk=>(if x.kind=10 then 1+xi N f (nth x.keys k) else 0)+xi N f (nth x.items k)) o;rw[lo] at this;rw[<-this]
  congr 1
  refine List.map_congr_left λp hp=>?_;unfold iota at hp;obtain⟨i,hi,rfl⟩:=List.mem_map.1 hp;have hi:=List.mem_range.1 hi;obtain⟨a,ha⟩:=dS (l:=o) (i:=i) (by omega);have ham:a∈iota x.items.length:=h1.mem_iff.1 (BY ha);unfold iota at ham;obtain⟨j,hj,rfl⟩:=List.mem_map.1 ham;have hj:=List.mem_range.1 hj;obtain⟨p,hp⟩:=dS (l:=x.items) (i:=j) hj;have e1:nth x'.items (i:Int)=φ p:=gb (by grind [gb]);rw[gb ha,e1,gb hp,E.k,HH I g hv f p (hu.step ⟨x,hx,.inr (BY hp)⟩)]
  congr 1
  by_cases hk:x.kind=10
  .rw[By hk,By hk];obtain⟨k,hk2⟩:=dS (l:=x.keys) (i:=j) (by rw[g.zV (az hx) hk];exact hj);have e2:nth x'.keys (i:Int)=φ k:=gb (by rw[h4,By hk,aal,ha];simp[gb hk2]);rw[e2,gb hk2,HH I g hv f k (hu.step ⟨x,hx,.inl (BY hk2)⟩)]
  .rw[AT hk,AT hk]
theorem iV.last {u w:Int}(h:iV N u w):u=w\/∃p,iV N u p/\Edge N p w:=by
 cases h with
 |refl=>exact .inl rfl
 |step r e=>exact .inr ⟨_,r,e⟩
section
variable (d:Vd N root)
include d
theorem Vd.down {H:Int->Nat}(hH:∀u v,KN N v->Edge N u v->H v<H u){u w:Int}(k:KN N u)(h:iV N u w):KN N w/\H w<=H u:=by
 induction h with
 |refl=>exact⟨k,aae _⟩
 |step _ e ih=>exact⟨ih.1.step e,by have:=hH _ _ (ih.1.step e) e;omega⟩
theorem Vd.apart {i c c':Int}(e:Edge N i c)(e':Edge N i c')(k:KN N c)(k':KN N c')(hne:c≠c'){w:Int}(h:iV N c w)(h':iV N c' w):False:=by
 obtain⟨H,_,hH⟩:=d.Vy;have loop:∀{c:Int},Edge N i c->KN N c->¬iV N c i:=λ{c} e k r=>by
  have h1:=hH i c k e;have h2:=(d.down hH k r).2;omega
 have one:∀{w p q:Int},KN N w->Edge N p w->Edge N q w->p=q:=λkw e1 e2=>(LY (d.one _ kw) e2).2 _ e1
 induction h with
 |refl=>
  rcases h'.last with q|⟨p,r,q⟩
  .exact hne q.symm
  grind
 |step r ed ih=>
  rename_i p w;have kw:KN N w:=(d.down hH k (r.step ed)).1;rcases h'.last with q|⟨p',r',q⟩
  .grind
  .rw[one kw q ed] at r';exact ih r'
end
theorem BW {p q r:Nat->Bool}:∀(l:η),(∀i∈l,(p i=true->r i=true)/\(q i=true->r i=true)/\¬(p i=true/\q i=true))->l.countP p+l.countP q<=l.countP r
 |[],_=>by simp
 |i::l,h=>by
  have ih:=BW l λj hj=>h j (IN _ hj)
  grind
noncomputable def cR (N:List ah)(u:Int):Nat:=open Classical in (List.range N.length).countP λi:Nat=>decide (iV N u (i:Int))
theorem ZN:∀(L:ε),(L.Pairwise λc c'=>∀w,¬(iV N c w/\iV N c' w))->(L.map (cR N)).sum<=open Classical in (List.range N.length).countP λi:Nat=>decide (∃c∈L,iV N c (i:Int))
 |[],_=>by simp
 |c::L,h=>by
  rw[ajB] at h;have ih:=ZN L h.2;rw[adq,ak6];refine abi (Nat.add_le_add_left ih _) ?_;unfold cR;refine BW _ λi _=>?_
  grind
theorem acV (d:Vd N root){u:Int}{x:ah}(hx:gt N u=some x)(k:KN N u):((refs x).map (cR N)).sum+1<=cR N u:=by
 obtain⟨H,_,hH⟩:=d.Vy;have ed:∀c∈refs x,Edge N u c:=λc hc=>⟨x,hx,by grind [refs]⟩;have nd:(refs x).Nodup:=List.nodup_iff_count.2 λc=>by
  by_cases hc:c∈refs x
  .have h1:=d.one c (k.step (ed c hc));have h2:=wJ (u:=c) (az hx);rw[ahT] at h1;omega
  .rw[List.count_eq_zero.2 hc];omega
 have h1:=ZN (N:=N) (refs x) (nd.imp_of_mem λ{c c'} hc hc' hne w q=>d.apart (ed c hc) (ed c' hc') (k.step (ed c hc)) (k.step (ed c' hc')) hne q.1 q.2);have hu:=p8 hx;have h2:(List.range N.length).countP (λi=>i==u.toNat)=1:=by
  have:=(aiP (n:=N.length)).count (a:=u.toNat);rw[By (List.mem_range.2 (show u.toNat<N.length by have:=hu.1;have:=hu.2;omega))] at this;exact this
 rw[<-h2];refine abi (Nat.add_le_add_right h1 _) ?_;unfold cR;refine BW _ λi _=>?_;simp only[OF,beq_iff_eq];have e:i=u.toNat->(i:Int)=u:=λe=>by have:=hu.1;omega
 refine⟨λ⟨c,q1,q2⟩=>(iV.one (ed c q1)).trans q2,λq=>by rw[e q];exact .refl,λ⟨⟨c,q1,q2⟩,q3⟩=>?_⟩;rw[e q3] at q2;have a1:=hH u c (k.step (ed c q1)) (ed c q1);have a2:=(d.down hH (k.step (ed c q1)) q2).2;omega
theorem Mh (d:Vd N root)(fw:mf N):∀(f:Nat) (u:Int),KN N u->xi N f u<=400*cR N u
 |0,u,_=>ajv _
 |f+1,u,k=>by
  obtain⟨x,hx⟩:=dA (l:=N) rfl (k.ir d.ix);unfold xi;rw[hx];simp only;have hc:=acV d hx k;have hxm:=az hx;have hi:=(fw.map x hxm).1;have ht:=fw.txt x hxm;have hb:ud x<=310:=by
   grind [ud,I7]
  have kk:x.keys.length=(if x.kind=10 then x.items.length else 0):=by
   by_cases hk:x.kind=10
   .rw[By hk,d.map hxm hk]
   .rw[AT hk,d.keys hxm hk];rfl
  have sum:tV (xi N f) x (iota x.items.length)<=x.items.length+400*((refs x).map (cR N)).sum:=by
   have s1:∀l:ε,(∀a∈l,0<=a/\a<x.items.length)->tV (xi N f) x l<=l.length+400*((if x.kind=10 then (l.map λa=>cR N (nth x.keys a)).sum else 0)+(l.map λa=>cR N (nth x.items a)).sum):=by
    intro l
    induction l with
    |nil=>intro _;simp[tV]
    |cons a l ih=>
     intro h;have ih:=ih λb hb=>h b (IN _ hb);obtain⟨a1,a2⟩:=h a IT;have q1:=Mh d fw f (nth x.items a) (k.step ⟨x,hx,.inr (iG a1 a2)⟩);rw[tV];simp only[adq,ak6,aac];by_cases hk:x.kind=10
     .have q2:=Mh d fw f (nth x.keys a) (k.step ⟨x,hx,.inl (iG a1 (by rw[d.map hxm hk];exact a2))⟩)
      grind
     grind
   have s2:=s1 (iota x.items.length) (sF _).2;rw[ph] at s2
   grind [Nat.le_trans,refs,iota,cR,nth,An]
  omega
theorem aje (u:Int):cR N u<=N.length:=by
 grind [cR,Nat.le_trans,List.countP_le_length]
theorem mf.gv (f:mf N):Sh.gc N root=0↔GV N root:=Q4 f.bd.2.2 f.bd.1 (by omega) f.k0 (f.gc root)
theorem mf.vdg (f:mf N)(h:Sh.gc N root=0):Vd N root:=Al f.bd.2.2 f.bd.1 (by omega) f.k0 (by rw[f.gc root,h])
theorem VR (fw:mf N)(h0:Sh.gc N root=0)(kv:KN N v):∃N' r φ,kept KF N v=some (N',r)/\BU N v N' φ/\φ v=r/\GV N' r/\mf N'/\AW N root v=ofBytes (iB N' 100 r):=by
 have d:=fw.vdg h0;have g:=fw.gv.1 h0;have hv:=kv.ir d.ix;obtain⟨N',r,ek,fw',H,hH1,hH2⟩:=HD d fw fw.k0 kv;obtain⟨φ,I,hφ,_⟩:=ZM g fw.bd.2.2 fw.k0 hv ek;have g':=I.gv g d hv;rw[hφ] at g';have h0':=fw'.gv.2 g';have d':=fw'.vdg h0';refine⟨N',r,φ,ek,I,hφ,g',fw',?_⟩;have hk:=fw'.k0;obtain⟨dd,a,ed,_,ha⟩:=Zg (k:=KF) g'.ix g'.rt fw'.bd.2.2 g'.le fw'.bd.1 g'.rch (by grind [gK,Nat.add_mul]);have ha:a=true:=ha.2 λu w e q=>by
  have h1:=hH2 u w e;have h2:∀z,iV N' w z->H z<=H w:=λz r=>by
   induction r with
   |refl=>exact aae _
   |step _ e ih=>have:=hH2 _ _ e;omega
  have:=h2 u q;omega
 have hgd:gd N' r=true:=by unfold gd;rw[ed];exact ha
 have hlen:(iB N' 100 r).length<=65536:=by
  rw[Ov d' 100 r g'.rt,<-hφ,HH I g hv 100 v .refl];have h1:=Mh d fw 100 v kv;have h2:=aje (N:=N) v;have:=fw.len;omega
 unfold AW;rw[By h0,ek];simp only;rw[h0',hgd];unfold VN
 grind
end
end Go.Sh
