
import Derived.Test.YthnfbcloepfooaaGreatDoorPae
set_option linter.all false
namespace Go.Sh
open Go Go.Ago Go.Proofs
section
variable {α β:Type}{h h' h0:af}{L:List dh}{Q:β->af->Prop}
abbrev vb (b:UInt8):ξ:=.int .u8 (b.toNat:Int)
theorem R5 {m:M α}{f:α->M β}{x:α}{h1:af}(e:m h=some (x,h1))(q:Wp (f x) h1 Q):Wp (AI m f) h Q:=by
 rw[ag];exact⟨x,h1,e,q⟩
abbrev Pf (pb:Nat):Addr:=⟨pb,2,none⟩
structure PB where
 b:Nat
 s:Sl
 root:Int
abbrev PB.cells (C:PB)(p:θ)(t:Sl)(e:Int):δ:=[aS C.s,vi C.root,.pointer p,aS t,vi e]
abbrev PB.own (C:PB)(p:θ)(t:Sl)(e:Int)(l:List UInt8)(g:Nat):List dh:=[.aD C.b (C.cells p t e) gz,.sl t 1 uf (l.map vb) g]
def np (h0 h:af)(C:PB)(e:Int)(l:List UInt8)(L:List dh):Prop:=∃p t g,(p=none\/p=some (Pf C.b))/\(l=[]->t=jb)/\Z h0 h (C.own p t e l g++L)
section
variable {C:PB}{e:Int}{l:List UInt8}
theorem Jj {n:Nat}(b:np h0 h C e l L):Wp (ez n (some (Pf C.b))) h λ_ h'=>np h0 h' C e l L:=by
 obtain⟨p,t,g,hp,hs,z⟩:=b;unfold ez;refine cU ?_;refine z.ld 0 (o:=2+0) (l:=.ptr) (x:=p) ?_;rcases hp with rfl|rfl
 .rw[BY (by rfl)];have lb:LB h C.b (C.cells none t e) gz:=z.get 0 rfl;refine cU ?_;refine R5 (x:=Pf C.b) (h1:=h) (by unfold Yr;simp only[lb.get];rfl) ?_;unfold oi;rw[ag,ah];refine cU ?_;refine R5 (x:=Pf C.b) (h1:=h) (by unfold Ys;simp only[lb.get];rw[BY ⟨trivial,.inr rfl⟩]) ?_;refine cU ?_;refine z.st 0 (o:=2+0) (cs':=C.cells (some (Pf C.b)) t e) λh1 z1=>ah.2 ⟨some (Pf C.b),t,g,.inr rfl,hs,z1⟩
 .rw[By (by simp)];refine cU ?_;refine z.ld 0 (o:=2+0) (l:=.ptr) (x:=some (Pf C.b)) ?_;refine R5 (x:=true) (h1:=h) (by unfold Sq;simp) ?_;rw[By (by simp)];exact ah.2 ⟨some (Pf C.b),t,g,.inr rfl,hs,z⟩
theorem B0 {p:θ}{t:Sl}{g:Nat}(z:Z h0 h (C.own p t e l g++L)):t.len=l.length:=by
 have o:sF h t 1 uf (l.map vb) g:=z.get 1 rfl;have:=o.1;simp at this;omega
theorem wV {n:Nat}{b:UInt8}{c:Int}(hc:c=(b.toNat:Int))(B:np h0 h C e l L)(hl:l.length+1<=cN):Wp (cm n (some (Pf C.b)) c) h λ_ h'=>np h0 h' C e (l++[b]) L:=by
 subst hc;unfold cm;rw[ag];refine (Jj B).mono λ_ h1 B=>?_;obtain⟨p,s,g,hp,hs,z⟩:=B;refine cU ?_;refine z.ld 0 (o:=2+1) (l:=.sl) (x:=s) ?_;have hsl:=B0 z;refine Z.WX z 1 rfl (by decide) rfl (by rw[hsl];exact hl) λs' h2 g' hs' z2 _=>?_;refine cU ?_;have z2:Z h0 h2 (.aD C.b (C.cells p s e) gz::.sl s' 1 uf ((l++[b]).map vb) g'::L):=by rw[aa6];exact z2
 refine z2.st 0 (o:=2+1) (cs':=C.cells p s' e) λh3 z3=>ah.2 ⟨p,s',g',hp,λe=>by simp at e,z3⟩
theorem Hd {n:Nat}{t:ζ}(B:np h0 h C e l L)(hl:l.length+t.size<=cN):Wp (db n (some (Pf C.b)) t) h λ_ h'=>np h0 h' C e (l++t.data.toList) L:=by
 unfold db;rw[ag];refine (Jj B).mono λ_ h1 B=>?_;obtain⟨p,s,g,hp,hs,z⟩:=B;refine cU ?_;refine z.ld 0 (o:=2+1) (l:=.sl) (x:=s) ?_;have hsl:=B0 z;by_cases ht:t.size=0
 .have e1:t.data.toList=[]:=List.length_eq_zero_iff.1 ht;have e2:bO t=[]:=by unfold bO;rw[e1];rfl
  rw[ht,e2,ag];have o:sF h1 s 1 uf (l.map vb) g:=z.get 1 rfl;refine⟨s,h1,?_,?_⟩
  .show kF false s 1 uf 0 [] h1=some (s,h1);unfold kF;rw[BY rfl];rcases o.2 with⟨rfl,_⟩|⟨_,_,_,b,base,e,_⟩
   .simp
   .rw[e];simp
  .refine cU ?_;rw[e1,aaF];refine z.st 0 (o:=2+1) (cs':=C.cells p s e) λh3 z3=>ah.2 ⟨p,s,g,hp,hs,z3⟩
 .have hcl:(bO t).length=t.size*1:=by unfold bO;rw[aaQ,aa5];rfl
  refine Z.WX z 1 rfl ht hcl (by rw[hsl];exact hl) λs' h2 g' hs' z2 _=>?_;refine cU ?_;have z2:Z h0 h2 (.aD C.b (C.cells p s e) gz::.sl s' 1 uf ((l++t.data.toList).map vb) g'::L):=by rw[aa6];exact z2
  refine z2.st 0 (o:=2+1) (cs':=C.cells p s' e) λh3 z3=>ah.2 ⟨p,s',g',hp,λe=>?_,z3⟩;exfalso;have:=aaL List.length e;rw[aaa,aam] at this;have h4:t.data.toList.length=t.size:=rfl;omega
theorem Fr.shut (hw:WF h){g:Nat}(h0:g≠0):Fr (·=g) h (h.shut g):=by
 have hg:∀j k,(h.shut g).get j=some k->h.get j=some k:=λj k hj=>by
  grind [af.shut]
 refine⟨⟨λj hj=>?_,hw.used,λj c g' b e hj=>hw.bG j c g' b e (hg _ _ hj),hw.maps⟩,aai _,λj c g' b e hj hx=>?_,λ_ _ _=>rfl,λ_ _=>rfl,λj hj hn=>?_,λ_ _ e _=>e⟩
 .have:=hw.get j hj;simp only[af.shut,this]
 .grind [af.shut,bZ]
 .simp only[af.shut,hn]
theorem Dw:∀l:List UInt8,bytesOf (l.map vb)=some l
 |[]=>rfl
 |b::l=>by
  simp only[aaK,bytesOf,Dw l,aac]
  congr 2
  exact UInt8.toNat_inj.1 (by simp)
theorem TX {n:Nat}(B:np h0 h C e l L):Wp (j4 n (some (Pf C.b))) h λr h'=>r=(l.length:Int)/\np h0 h' C e l L:=by
 have B':=B;obtain⟨p,s,g,hp,hs,z⟩:=B;unfold j4;refine cU ?_;refine z.ld 0 (o:=2+1) (l:=.sl) (x:=s) ?_;have hsl:=B0 z;exact ah.2 ⟨by rw[hsl],B'⟩
theorem TY {n:Nat}(B:np h0 h C e l L)(hl:l.length<=1073741824):Wp (iD n (some (Pf C.b))) h λr h'=>r=ofBytes l/\Z h0 h' L:=by
 obtain⟨p,s,g,hp,hs,z⟩:=B;unfold iD;refine cU (cU ?_);refine z.ld 0 (o:=2+1) (l:=.sl) (x:=s) ?_;have hsl:=B0 z;have o:sF h s 1 uf (l.map vb) g:=z.get 1 rfl;cases l with
 |nil=>
  have e:=hs rfl;subst e;rw[ag];refine⟨none,h,rfl,?_⟩;refine z.ld 0 (o:=2+1) (l:=.sl) (x:=jb) ?_;rw[ag];refine⟨ofBytes [],h,rfl,ah.2 ⟨rfl,z.drop.drop⟩⟩
 |cons b l=>
  have hn:s.len≠0:=by rw[hsl];simp
  obtain⟨b2,base,e1,e2,hg⟩:=o.aD hn;rw[ag];refine⟨s.a,h,by rw[e1];unfold AO;simp only;rw[BY hn],?_⟩;refine z.ld 0 (o:=2+1) (l:=.sl) (x:=s) ?_;have hr:=o.read;rw[aa5] at hr;rw[ag];have hle:=o.le;have hgo:h0.next<g:=by
   have:=(z.own (.sl s 1 uf ((b::l).map vb) g) (aan _ aaz)).2;exact this.resolve_left hg
  have hX:∀o∈L,o.bG=g->o.bG=0:=λo ho e=>by
   have h1:=(List.pairwise_cons.1 z.k8).2;have h2:=(List.pairwise_cons.1 h1).1 o ho;exact absurd (h2 e.symm) hg
  refine⟨ofBytes (b::l),h.shut g,?_,ah.2 ⟨rfl,z.drop.drop.step (Fr.shut z.wf hg) (λg' e _=>by rw[e];exact hgo) hX⟩⟩;unfold SC;rw[e1] at hr⊢;simp only[aac,hr,e2];rw[BY ⟨by omega,by rw[hsl];omega,hg,trivial⟩,Dw]
theorem np.new (B:np h0 h C e l L){t:κ}{cs:δ}{f:Nat->M β}(q:∀b h',np h0 h' C e l (.aD b cs t::L)->Wp (f b) h' Q)(hs:cs.all fi=true:=by rfl):Wp (AI (aJ none t cs) f) h Q:=by
 obtain⟨p,s,g,hp,hs',z⟩:=B;refine z.new (λb h' z _=>q b h' ⟨p,s,g,hp,hs',?_⟩) hs;exact Z.lA (pre:=[_,_,_]) z [1,2,0] (by simp only[aae,aam];decide)
theorem np.DV (B:np h0 h C e l L){t:κ}{c:δ}{n:Int}{f:Sl->M β}(h1:0<=n)(h2:n<=cN)
  (q:∀b h',np h0 h' C e l (.aD b (List.replicate n.toNat c).flatten t::L)->Wp (f ⟨some ⟨b,0,none⟩,n.toNat,n.toNat+1⟩) h' Q) (hs:c.all fi=true:=by rfl):Wp (AI (pT none t c n n) f) h Q:=by
 obtain⟨p,s,g,hp,hs',z⟩:=B;refine z.DV h1 h2 (λb h' z _=>q b h' ⟨p,s,g,hp,hs',?_⟩) hs;exact Z.lA (pre:=[_,_,_]) z [1,2,0] (by simp only[aae,aam];decide)
theorem np.drop {o:dh}(B:np h0 h C e l (o::L)):np h0 h C e l L:=by
 obtain⟨p,s,g,hp,hs,z⟩:=B;exact⟨p,s,g,hp,hs,z.sub (.cons₂ _ (.cons₂ _ (.cons _ (.refl _))))⟩
theorem np.ld (B:np h0 h C e l L)(i:Nat){b o:Nat}{cs:δ}{t:κ}{lf:eh}{v:ξ}{x:lf.den}{f:lf.den->M β}
  (q:Wp (f x) h Q) (hi:L[i]?=some (.aD b cs t):=by rfl) (hv:cs[o]?=some v:=by rfl) (hx:xi lf v=some x:=by rfl):Wp (AI (ar lf ⟨b,o,none⟩) f) h Q:=by
 obtain⟨p,s,g,hp,hs,z⟩:=B;exact z.ld (i+2) q hi hv hx
theorem np.jV (B:np h0 h C e l L)(i:Nat){b:Nat}{cs:δ}{t:κ}{ls:List eh}{x:mF ls}{f:mF ls->M β}
  (q:Wp (f x) h Q) (hi:L[i]?=some (.aD b cs t):=by rfl) (hx:vX ls cs=some x:=by rfl) (hl:ls.length=cs.length:=by rfl):Wp (AI (bh ls ⟨b,0,none⟩) f) h Q:=by
 obtain⟨p,s,g,hp,hs,z⟩:=B;exact z.jV (i+2) q hi hx hl
theorem np.st (B:np h0 h C e l L)(i:Nat){b o:Nat}{cs vs cs':δ}{t:κ}{f:Unit->M β}
  (q:∀h',np h0 h' C e l (L.set i (.aD b cs' t))->Wp (f ()) h' Q) (hi:L[i]?=some (.aD b cs t):=by rfl) (hc:bB cs o vs=cs':=by rfl) (ho:o+vs.length<=cs.length:=by first|decide|simp) (hs:vs.all fi=true:=by rfl) :
  Wp (AI (bE ⟨b,o,none⟩ vs) f) h Q:=by
 obtain⟨p,s,g,hp,hs',z⟩:=B;exact z.st (i+2) (λh' z=>q h' ⟨p,s,g,hp,hs',z⟩) hi hc ho hs
theorem np.gr (B:np h0 h C e l L){f:Sl->M β}(q:Wp (f C.s) h Q):Wp (AI (ar .sl (((aw C.b).plus 0).plus 0)) f) h Q:=by
 obtain⟨p,s,g,hp,hs',z⟩:=B;exact z.ld 0 (o:=0+0+0) (l:=.sl) (x:=C.s) q
theorem np.er (B:np h0 h C e l L){f:Int->M β}(q:Wp (f e) h Q):Wp (AI (ar li ((aw C.b).plus 4)) f) h Q:=by
 obtain⟨p,s,g,hp,hs',z⟩:=B;exact z.ld 0 (o:=0+4) (l:=li) (x:=e) q
theorem np.set (B:np h0 h C e l L){e':Int}{f:Unit->M β}(q:∀h',np h0 h' C e' l L->Wp (f ()) h' Q):Wp (AI (bE ((aw C.b).plus 4) [vi e']) f) h Q:=by
 obtain⟨p,s,g,hp,hs',z⟩:=B;exact z.st 0 (o:=0+4) (cs':=C.cells p s e') λh' z=>q h' ⟨p,s,g,hp,hs',z⟩
end
end
section
variable {α β:Type}{h h' h0:af}{L:List dh}{Q:β->af->Prop}
theorem R6:∀n:Nat,Lib.decDigits n=AA n:=by
 intro n
 induction n using Nat.strongRecOn with
 |ind n ih=>
  rw[Lib.decDigits,AA];by_cases hn:n<10
  .rw[dif_pos hn,BY hn]
  .rw[dif_neg hn,By hn,ih (n/10) (by omega)]
theorem Jk (s:ζ):∀(n pos:Nat),s.size-pos<=n->Lib.validGoD n (s.data.toList.drop pos)=(oh s (s.size+1) pos).isNone
 |0,pos,hn=>by rw[Lib.validGoD,oh,By (by omega)];rfl
 |n+1,pos,hn=>by
  have hl:s.data.toList.length=s.size:=rfl;rw[Lib.validGoD];by_cases hp:pos<s.size
  .rw[By (by intro e;have:=aaL List.length e;rw[aaZ] at this;simp only[aam] at this;omega),Lib.decodeL_drop];split
   .rename_i hb;rw[Qn hp hb.1 hb.2];rfl
   .rename_i hb;have hw:=width_pos s pos hp;rw[aa3,Fs hp hb];exact Jk s n _ (by omega)
  .rw[BY (aah (by omega)),oh,By hp];rfl
theorem R7 (t:ζ):Lib.validD t.data.toList=u8 t:=by
 unfold Lib.validD u8;have:=Jk t t.data.toList.length 0 (by show t.size-0<=t.size;omega)
 rwa [acR] at this
def Jl (N:List aq):ε->Option Int
 |[]=>some 0
 |k::ks=>match gt N k with
  |none=>none
  |some y=>if y.kind=5 then Jl N ks else some 16
def W9 (N:List aq)(x:aq):Option Int:=
 if x.kind=6 then some (if u8 x.text then 11 else 0) else
 if x.kind=10 then (if x.ord then some 10 else Jl N x.keys) else some 10
def YR (N:List aq)(x:aq):Option Int:=if x.kind=2 then some 0 else if x.kind=5 then some 0 else if x.kind=9 then some 0 else W9 N x
def KT (N:List aq)(ks:ε)(ts:List ζ):Prop:=ks.length=ts.length/\∀(i:Nat) t,ts[i]?=some t->∃k y,ks[i]?=some k/\gt N k=some y/\y.text=t
def Xn (ts:List ζ)(u v:Int):Int:=match gt ts u,gt ts v with
 |some a,some b=>Lib.compareBytes a.data.toList b.data.toList
 |_,_=>0
def ZK (ts:List ζ)(r:ε):Prop:=
 (∀p∈r,0<=p/\p<(ts.length:Int))/\r.length=ts.length /\
 ∀(c:Cx) (P:List dh) (h:af) (n:Nat),c.m=ts.length->c.OK (Xn ts)->c.k+(ts.length+700)<=n->c.St P h (iota ts.length) ->
  Wp ((cl n).cI (arr c.b ts.length) c.x) h λ_ h'=>c.St P h' r
def Seq (R:Int->Int->List UInt8->Int->Prop):ε->Int->List UInt8->Int->Prop
 |[],c,bs,c'=>bs=[]/\c'=c
 |a::r,c,bs,c'=>∃b1 c1 b2,R a c b1 c1/\Seq R r c1 b2 c'/\bs=b1++b2
def KM (ts:List ζ)(is:ε)(R:Int->Int->List UInt8->Int->Prop):ε->Int->List UInt8->Int->Prop
 |[],c,bs,c'=>bs=[]/\c'=c
 |i::r,c,bs,c'=>∃t a b1 c1 b2,gt ts i=some t/\gt is i=some a/\R a c b1 c1/\KM ts is R r c1 b2 c'/\bs=uw t++(b1++b2)
def PR (N:List aq):Nat->Int->Int->List UInt8->Int->Prop
 |0=>λ_ _ _ _=>False
 |d+1=>λa c bs c'=>∃x,gt N a=some x/\((c≠0/\bs=[]/\c'=c)\/(c=0/\∃w,YR N x=some w/\((w≠0/\bs=[]/\c'=w)\/(w=0/\(
   (x.kind=2/\bs=105::(x.text.data.toList++[101])/\c'=0) \/
   ((x.kind=5\/x.kind=6)/\bs=uw x.text/\c'=0) \/
   (x.kind=9/\∃b1,Seq (PR N d) x.items 0 b1 c'/\bs=108::(b1++[101])) \/
   (x.kind=10/\∃ts r b1,KT N x.keys ts/\x.items.length=ts.length/\ZK ts r/\KM ts x.items (PR N d) r 0 b1 c'/\bs=100::(b1++[101])))))))
section
variable {s:Sl}{N:List aq}{C:PB}{e:Int}{l:List UInt8}
theorem R8 (B:np h0 h C e l L)(G:mE h0 C.s N){ks:Sl}{kl:ε}(ik:IL h0 ks kl)(hk:kl.length<1073741824){w:Int} :
  ∀(n i:Nat),kl.length-i<n->i<=kl.length->Jl N (kl.drop i)=some w->Wp (da n (some (aw C.b)) ks (kl.length:Int) (i:Int)) h λr h'=>(match r with | .inl _=>w=0 | .inr y=>y=w)/\h'=h:=by
 intro n
 induction n with
 |zero=>intro i h1;omega
 |succ n ih=>
  intro i h1 h2 hw;rw[oL];unfold gT;obtain⟨p,t,g,hp,hs,z⟩:=id B;by_cases hi:i<kl.length
  .rw[BY (by simp;omega)];obtain⟨k,hk1⟩:=gU hi;rw[drop_cons hk1,Jl] at hw;cases hy:gt N k with
   |none=>rw[hy] at hw;cases hw
   |some y=>
    rw[hy] at hw;simp only at hw;obtain⟨g1,g2⟩:=bH hy;refine (ik.fr z.fr).ix (by omega) (by simpa using hk1) λa g cl=>cl.uI (l:=li) rfl rfl ?_;refine cU ?_;refine B.gr ?_;refine G.at z g1 g2 λa ks is nd _ _=>nd.V1 ?_;by_cases h5:y.kind=5
    .rw[BY h5] at hw;rw[By (by simpa using h5),vV h2 hk];exact ih (i+1) (by omega) (by omega) hw
    .rw[By h5] at hw;cases hw;rw[BY (by simpa using h5),ah];exact⟨rfl,rfl⟩
  .rw[By (by simp;omega),ah];rw[aah (by omega),Jl] at hw;cases hw;exact⟨rfl,rfl⟩
theorem R9 (B:np h0 h C e l L)(G:mE h0 C.s N){x:aq}{ks is:Sl}(ik:IL h0 ks x.keys)(hk:x.keys.length<1073741824)(ht:x.text.size<=65536){w:Int}(hw:YR N x=some w){n:Nat}(hn:x.keys.length<n) :
  Wp (gw n (some (aw C.b)) (x.kind,x.text,x.ord,ks,is)) h λr h'=>r=w/\np h0 h' C e l L:=by
 unfold gw;unfold YR at hw;refine B.new λb h1 B=>?_;refine B.ld 0 (o:=0+0) (lf:=li) (x:=x.kind) ?_;by_cases h2:x.kind=2
 .rw[BY h2] at hw;cases hw;rw[BY (by simpa using h2),ah];exact⟨rfl,B.drop⟩
 rw[By h2] at hw;rw[By (by simpa using h2)];by_cases h5:x.kind=5
 .rw[BY h5] at hw;cases hw;rw[BY (by simpa using h5),ah];exact⟨rfl,B.drop⟩
 rw[By h5] at hw;rw[By (by simpa using h5)];by_cases h9:x.kind=9
 .rw[BY h9] at hw;cases hw;rw[BY (by simpa using h9),ah];exact⟨rfl,B.drop⟩
 rw[By h9] at hw;rw[By (by simpa using h9)];unfold iC;unfold W9 at hw;by_cases h6:x.kind=6
 .rw[BY h6] at hw;rw[BY (by simpa using h6)];refine B.ld 0 (o:=0+1) (lf:=.str) (x:=x.text) ?_;unfold dW;rw[BY (by omega),ag,ah,R7];cases hu:u8 x.text with
  |true=>rw[hu] at hw;cases hw;rw[BY rfl,ah];exact⟨rfl,B.drop⟩
  |false=>rw[hu] at hw;cases hw;rw[By (by simp),ah];exact⟨rfl,B.drop⟩
 rw[By h6] at hw;rw[By (by simpa using h6)];by_cases h10:x.kind=10
 .rw[BY h10] at hw;rw[BY (by simpa using h10)];refine B.ld 0 (o:=0+2) (lf:=.bool) (x:=x.ord) ?_;cases ho:x.ord with
  |true=>rw[ho] at hw;cases hw;rw[BY rfl,ah];exact⟨rfl,B.drop⟩
  |false=>
   rw[ho] at hw;rw[By (by simp)];refine B.ld 0 (o:=0+3) (lf:=.sl) (x:=ks) ?_;rw[ik.len,ag];refine (R8 B G ik hk n 0 (by omega) (by omega) (by simpa using hw)).mono λr h2 hr=>?_;obtain⟨hr,rfl⟩:=hr;cases r with
   |inl _=>exact ah.2 ⟨hr.symm,B.drop⟩
   |inr y=>exact ah.2 ⟨hr,B.drop⟩
 .rw[By h10] at hw;cases hw;rw[By (by simpa using h10),ah];exact⟨rfl,B.drop⟩
theorem Ms (B:np h0 h C e l L){t:ζ}(ht:t.size<=65536){n:Nat}(hl:l.length+(uw t).length<=cN) :
  Wp (fg n (some (aw C.b)) t) h λ_ h'=>np h0 h' C e (l++uw t) L:=by
 unfold fg;have e1:Lib.itoa (t.size:Int)=AA t.size:=by unfold Lib.itoa;rw[By (by omega),aac,R6]
 have e2:t.data.toList.length=t.size:=rfl;unfold uw at hl;rw[aaa,aae,e2] at hl;refine cU ?_;unfold strconv_Itoa;rw[BY (by omega),e1,ag,ah,ag];refine (Hd B (t:=⟨(AA t.size).toArray⟩) (by show l.length+(AA t.size).toArray.size<=cN;rw[List.size_toArray];omega)).mono λ_ h1 B=>?_;have B:np h0 h1 C e (l++AA t.size) L:=B;refine cU ?_;rw[ag];refine (wV (b:=58) rfl B (by rw[aaa];omega)).mono λ_ h2 B=>?_;refine cU ?_;rw[ag];refine (Hd B (t:=t) (by rw[aaa,aaa,aaD];omega)).mono λ_ h3 B=>?_;rw[ah];unfold uw;simpa using B
end
end
section
variable {α β:Type}{h h' h0:af}{L:List dh}{Q:β->af->Prop}
theorem KT.at {N:List aq}{ks:ε}{ts:List ζ}(k:KT N ks ts){p:Int}{t:ζ}(ht:gt ts p=some t):∃q y,0<=p/\ks[p.toNat]?=some q/\gt N q=some y/\y.text=t:=by
 obtain⟨g1,g2⟩:=bH ht;obtain⟨q,y,h1,h2,h3⟩:=k.2 _ _ g2;exact⟨q,y,g1,h1,h2,h3⟩
theorem Mt {γ:Type}{ts:List γ}{p:Int}(h1:0<=p)(h2:p<(ts.length:Int)):∃t,gt ts p=some t:=by
 obtain⟨t,ht⟩:=gU (l:=ts) (i:=p.toNat) (by omega);exact⟨t,by unfold gt;rw[BY h1];exact ht⟩
section
variable {s:Sl}{N:List aq}{C:PB}{e:Int}{l:List UInt8}{x:aq}{ks is:Sl}{x0 x6:Nat}{ts:List ζ}
abbrev NB (C:PB)(x:aq)(ks is:Sl)(x0 x6:Nat):List dh:=[.aD x6 [vi x.kind,.string x.text,.bool x.ord,aS ks,aS is] aH,.aD x0 [.pointer (some (aw C.b))] nJ]
abbrev Xa (x0 x6:Nat):ξ:=Value.func (Fn.func iw) #[] #[Value.pointer (some (aw x0)),Value.pointer (some (aw x6))]
theorem T0 (B:np h0 h C e l (NB C x ks is x0 x6++L))(G:mE h0 C.s N)(ik:IL h0 ks x.keys)(k:KT N x.keys ts){u v:Int}(hu:0<=u/\u<(ts.length:Int))(hv:0<=v/\v<(ts.length:Int)){n:Nat} :
  Wp (RY n (Xa x0 x6) u v) h λr h'=>r=Xn ts u v/\h'=h:=by
 obtain⟨p,t,g,hp,hs,z⟩:=id B;obtain⟨t1,h1⟩:=Mt hu.1 hu.2;obtain⟨t2,h2⟩:=Mt hv.1 hv.2;obtain⟨q1,y1,_,a1,a2,rfl⟩:=k.at h1;obtain⟨q2,y2,_,b1,b2,rfl⟩:=k.at h2;obtain⟨a3,a4⟩:=bH a2;obtain⟨b3,b4⟩:=bH b2;have hc:Xn ts u v=Lib.compareBytes y1.text.data.toList y2.text.data.toList:=by unfold Xn;rw[h1,h2]
 rw[hc];unfold RY aA;rw[BY (by rfl),ag];refine lG (c:=(aw x0,aw x6)) rfl ?_;unfold aG;refine B.ld 1 (lf:=.ptr) (x:=some (aw C.b)) (cU (B.gr ?_));refine B.ld 0 (o:=0+3) (lf:=.sl) (x:=ks) ?_;refine (ik.fr z.fr).ix hu.1 a1 λa g cl=>cl.uI (l:=li) rfl rfl ?_;refine G.at z a3 a4 λa _ _ nd _ _=>nd.Jv ?_;refine B.ld 1 (lf:=.ptr) (x:=some (aw C.b)) (cU (B.gr ?_));refine B.ld 0 (o:=0+3) (lf:=.sl) (x:=ks) ?_;refine (ik.fr z.fr).ix hv.1 b1 λa g cl=>cl.uI (l:=li) rfl rfl ?_;refine G.at z b3 b4 λa _ _ nd _ _=>nd.Jv ?_;unfold strings_Compare;rw[ag,ah,ah];exact⟨rfl,rfl⟩
theorem T3 {m b:Nat}(hm:m<1073741824)(a0 a1:Addr) :
  ∀(n i:Nat) (h:af),m-i<n->i<=m->np h0 h C e l (.aD b (((iota m).take i++List.replicate (m-i) 0).map vi) ay::L) ->
   Wp (cF n a0 a1 (arr b m) (m:Int) (i:Int)) h λ_ h'=>np h0 h' C e l (.aD b ((iota m).map vi) ay::L):=by
 intro n
 induction n with
 |zero=>intro i h h1;omega
 |succ n ih=>
  intro i h h1 h2 B;rw[pc];unfold hG;have hl:=mW m;by_cases hi:i<m
  .rw[BY (by simp;omega)];refine yL (b:=b) (m:=m) (by omega) (by omega) ?_;rw[aac];refine B.st 0 (λh3 B=>?_) rfl (yu (xs:=(iota m).take i++List.replicate (m-i) 0) (enc:=vi) (k:=i) (v:=(i:Int)) (by rw[aaa,aaI,aax];omega)) (by simp;omega) rfl;have hf:=fill (Ds hi);rw[hl] at hf;rw[hf] at B;rw[vV h2 (by omega)];exact ih (i+1) h3 (by omega) (by omega) B
  .rw[By (by simp;omega),ah];have:i=m:=by omega
   subst this;have e:(iota i).take i=iota i:=aba (by omega);rw[e] at B;simpa using B
def NW (h0:af)(C:PB)(N:List aq)(M d:Nat):Prop:=∀(n:Nat) (a c:Int) (bs:List UInt8) (c':Int) (l:List UInt8) (h:af) (L:List dh),
 PR N d a c bs c'->d*(M+10)+2*M+1000<=n->l.length+bs.length<=cN->np h0 h C c l L->Wp (cJ n (some (aw C.b)) a) h λ_ h'=>np h0 h' C c' (l++bs) L
theorem T4 {M d:Nat}(hM:M<1073741824)(hW:NW h0 C N M d)(ii:IL h0 is x.items)(hi:x.items.length<=M) :
  ∀(n i:Nat) (c:Int) (bs:List UInt8) (c':Int) (l:List UInt8) (h:af),d*(M+10)+2*M+1000+(x.items.length-i)<n->i<=x.items.length->Seq (PR N d) (x.items.drop i) c bs c'->l.length+bs.length<=cN ->
   np h0 h C c l (NB C x ks is x0 x6++L)->Wp (cG n (aw x0) is (x.items.length:Int) (i:Int)) h λ_ h'=>np h0 h' C c' (l++bs) (NB C x ks is x0 x6++L):=by
 intro n
 induction n with
 |zero=>intro i c bs c' l h h1;omega
 |succ n ih=>
  intro i c bs c' l h h1 h2 hs hl B;rw[pd];unfold ic;obtain⟨p,t,g,hp,hs',z⟩:=id B;by_cases hlt:i<x.items.length
  .rw[BY (by simp;omega)];obtain⟨a,ha⟩:=gU hlt;rw[drop_cons ha,Seq] at hs;obtain⟨b1,c1,b2,r1,r2,rfl⟩:=hs;rw[aaa] at hl;refine (ii.fr z.fr).ix (by omega) (by simpa using ha) λ_ _ cl=>cl.uI (l:=li) rfl rfl ?_;refine B.ld 1 (lf:=.ptr) (x:=some (aw C.b)) ?_;rw[ag];refine (hW n a c b1 c1 l h _ r1 (by omega) (by omega) B).mono λ_ h3 B=>?_;rw[vV h2 (by omega)];have:=ih (i+1) c1 b2 c' (l++b1) h3 (by omega) (by omega) r2 (by rw[aaa];omega) B
   rwa [aas] at this
  .rw[By (by simp;omega),ah];rw[aah (by omega),Seq] at hs;obtain⟨rfl,rfl⟩:=hs;rw[aaF];exact B
theorem Xb {M d:Nat}(hM:M<1073741824)(hW:NW h0 C N M d)(G:mE h0 C.s N)(hT:∀x∈N,x.text.size<=65536)(ik:IL h0 ks x.keys)(ii:IL h0 is x.items)(k:KT N x.keys ts){r:ε}{b:Nat}(hr:r.length<=M) :
  ∀(n i:Nat) (c:Int) (bs:List UInt8) (c':Int) (l:List UInt8) (h:af),d*(M+10)+2*M+1000+(r.length-i)<n->i<=r.length->KM ts x.items (PR N d) (r.drop i) c bs c'->l.length+bs.length<=cN ->
   np h0 h C c l (NB C x ks is x0 x6++(.aD b (r.map vi) ay::L))->Wp (cD n (aw x0) (aw x6) (arr b r.length) (r.length:Int) (i:Int)) h λ_ h'=>np h0 h' C c' (l++bs) (NB C x ks is x0 x6++(.aD b (r.map vi) ay::L)):=by
 intro n
 induction n with
 |zero=>intro i c bs c' l h h1;omega
 |succ n ih=>
  intro i c bs c' l h h1 h2 hs hl B;rw[o9];unfold hC;obtain⟨p,t,g,hp,hs',z⟩:=id B;by_cases hlt:i<r.length
  .rw[BY (by simp;omega)];obtain⟨j,hj⟩:=gU hlt;rw[drop_cons hj,KM] at hs;obtain⟨t,a,b1,c1,b2,q1,q2,r1,r2,rfl⟩:=hs;obtain⟨q,y,j0,a1,a2,rfl⟩:=k.at q1;obtain⟨a3,a4⟩:=bH a2;obtain⟨i1,i2⟩:=bH q2;rw[aaa,aaa] at hl;refine yL (b:=b) (m:=r.length) (by omega) (by omega) ?_;refine B.ld 2 (o:=(i:Int).toNat) (lf:=li) (x:=j) ?_ rfl (by rw[aac,aaj,hj];rfl) rfl;refine B.ld 1 (lf:=.ptr) (x:=some (aw C.b)) ?_;refine B.ld 1 (lf:=.ptr) (x:=some (aw C.b)) (cU (B.gr ?_));refine B.ld 0 (o:=0+3) (lf:=.sl) (x:=ks) ?_;refine (ik.fr z.fr).ix j0 a1 λ_ _ cl=>cl.uI (l:=li) rfl rfl ?_;refine G.at z a3 a4 λ_ _ _ nd _ _=>nd.Jv ?_;rw[ag];refine (Ms B (hT y (OF a4)) (by omega)).mono λ_ h3 B=>?_;obtain⟨p,t,g,hp,hs',z⟩:=id B;refine B.ld 1 (lf:=.ptr) (x:=some (aw C.b)) ?_;refine B.ld 0 (o:=0+4) (lf:=.sl) (x:=is) ?_;refine (ii.fr z.fr).ix i1 i2 λ_ _ cl=>cl.uI (l:=li) rfl rfl ?_;rw[ag];refine (hW n a c b1 c1 _ h3 _ r1 (by omega) (by rw[aaa];omega) B).mono λ_ h4 B=>?_;rw[vV h2 (by omega)];have:=ih (i+1) c1 b2 c' _ h4 (by omega) (by omega) r2 (by rw[aaa,aaa];omega) B;rw[aas,aas] at this;exact this
  .rw[By (by simp;omega),ah];rw[aah (by omega),KM] at hs;obtain⟨rfl,rfl⟩:=hs;rw[aaF];exact B
theorem np.node (B:np h0 h C e l L){f:Nat->M β}(q:∀b h',np h0 h' C e l (.aD b [vi x.kind,.string x.text,.bool x.ord,aS ks,aS is] aH::L)->Wp (f b) h' Q) :
  Wp (AI (aJ none aH [vi 0,Value.string (ofBytes []),Value.bool false,aZ,aZ]) λb=>AI (bE (aw b) [vi x.kind,Value.string x.text,Value.bool x.ord,aS ks,aS is]) λ_=>f b) h Q:=
 B.new λb h1 B=>B.st 0 (o:=0) (cs':=[vi x.kind,.string x.text,.bool x.ord,aS ks,aS is]) λh2 B=>q b h2 B
theorem np.perm {L':List dh}(B:np h0 h C e l L)(hp:L.Perm L'):np h0 h C e l L':=by
 obtain⟨p,t,g,h1,h2,z⟩:=B;exact⟨p,t,g,h1,h2,z.perm (hp.append_left _)⟩
set_option maxRecDepth 20000 in
theorem T5 {d M n m:Nat}(h8:m<=M)(hn:d*(M+10)+3*M+1001<=n):0+(m+700)<=n:=by omega
theorem Mu {M d:Nat}(hM:M<1073741824)(hW:NW h0 C N M d)(G:mE h0 C.s N)(hB:Bd N M)(hT:∀x∈N,x.text.size<=65536){a:Int}(hx:gt N a=some x)(ik:IL h0 ks x.keys)(ii:IL h0 is x.items){n:Nat}(hn:d*(M+10)+3*M+1001<=n)
  {bs:List UInt8} {c c':Int} (hl:l.length+bs.length<=cN)
  (hp:(c≠0/\bs=[]/\c'=c)\/(c=0/\((x.kind=2/\bs=105::(x.text.data.toList++[101])/\c'=0) \/
   ((x.kind=5\/x.kind=6)/\bs=uw x.text/\c'=0) \/
   (x.kind=9/\∃b1,Seq (PR N d) x.items 0 b1 c'/\bs=108::(b1++[101])) \/
   (x.kind=10/\∃ts r b1,KT N x.keys ts/\x.items.length=ts.length/\ZK ts r/\KM ts x.items (PR N d) r 0 b1 c'/\bs=100::(b1++[101])))))
  (B:np h0 h C c l (NB C x ks is x0 x6++L)):Wp (dS (az.at n) n (aw x0) (aw x6)) h λ_ h'=>np h0 h' C c' (l++bs) L:=by
 have hxm:=OF (bH hx).2;have hbd:=hB.2.2 x hxm;have htx:=hT x hxm;have htl:x.text.data.toList.length=x.text.size:=rfl;have fin:∀{h':af} {c':Int} {l:List UInt8},np h0 h' C c' l (NB C x ks is x0 x6++L)->np h0 h' C c' l L:=λB=>B.drop.drop;unfold dS;refine B.ld 1 (lf:=.ptr) (x:=some (aw C.b)) (cU (B.er ?_));rcases hp with⟨h1,rfl,rfl⟩|⟨rfl,hp⟩
 .rw[BY (by simpa using h1),ah,aaF];exact fin B
 rw[By (by simp)];refine B.ld 0 (o:=0+0) (lf:=li) (x:=x.kind) ?_;rcases hp with⟨h2,rfl,rfl⟩|⟨h5,rfl,rfl⟩|⟨h9,b1,hs,rfl⟩|⟨h10,ts,r,b1,k,hkl,so,hs,rfl⟩
 .simp only[aae,aaa,htl,aam] at hl;rw[BY (by simpa using h2)];refine B.ld 1 (lf:=.ptr) (x:=some (aw C.b)) (cU ?_);refine B.ld 0 (o:=0+1) (lf:=.str) (x:=x.text) ?_;have z1:(ofBytes [105]).size=1:=rfl;have z2:(ofBytes [101]).size=1:=rfl;rw[ag,Lu];refine⟨by unfold cN at hl⊢;omega,?_⟩;rw[ag,Lu];refine⟨by rw[ace];unfold cN at hl⊢;omega,?_⟩;rw[ag];refine (Hd B (by rw[ace,ace];omega)).mono λ_ h1 B=>?_;rw[ah];have e:(ofBytes [105]++x.text++ofBytes [101]).data.toList=105::(x.text.data.toList++[101]):=by
   rw[acT,acT,abY,abY];show [105]++x.text.data.toList++[101]=_;simp
  rw[e] at B;exact fin B
 .have n2:x.kind≠2:=by omega
  have n9:x.kind≠9:=by omega
  have n10:x.kind≠10:=by omega
  rw[By (by simpa using n2),By (by simpa using n9),By (by simpa using n10)];refine B.ld 1 (lf:=.ptr) (x:=some (aw C.b)) ?_;refine B.ld 0 (o:=0+1) (lf:=.str) (x:=x.text) ?_;rw[ag];refine (Ms B htx hl).mono λ_ h1 B=>?_;rw[ah];exact fin B
 .have n2:x.kind≠2:=by omega
  simp only[aae,aaa,aam] at hl;rw[By (by simpa using n2),BY (by simpa using h9)];refine B.ld 1 (lf:=.ptr) (x:=some (aw C.b)) (cU ?_);rw[ag];refine (wV (b:=108) rfl B (by omega)).mono λ_ h1 B=>?_;refine B.ld 0 (o:=0+4) (lf:=.sl) (x:=is) ?_;rw[ii.len,ag];refine (T4 hM hW ii hbd.2 n 0 0 b1 c' _ h1 (by omega) (by omega) (by simpa using hs) (by rw[aaa,aaD];omega) B).mono λ_ h2 B=>?_;refine B.ld 1 (lf:=.ptr) (x:=some (aw C.b)) (cU ?_);rw[ag];refine (wV (b:=101) rfl B (by rw[aaa,aaa,aaD];omega)).mono λ_ h3 B=>?_;rw[ah];have B:=fin B;simpa using B
 .have n2:x.kind≠2:=by omega
  have n9:x.kind≠9:=by omega
  have hkk:=k.1;have h8:ts.length<=M:=by rw[<-hkk];exact hbd.1
  have hn7:=T5 h8 hn;simp only[aae,aaa,aam] at hl;rw[By (by simpa using n2),By (by simpa using n9),BY (by simpa using h10)];refine B.ld 1 (lf:=.ptr) (x:=some (aw C.b)) (cU ?_);rw[ag];refine (wV (b:=100) rfl B (by omega)).mono λ_ h1 B=>?_;refine B.ld 0 (o:=0+3) (lf:=.sl) (x:=ks) ?_;rw[ik.len,hkk];refine B.DV (by omega) (by unfold cN;omega) λb h2 B=>?_;rw[aac] at B⊢;rw[l6 (enc:=vi)] at B;rw[ag];refine (T3 (m:=ts.length) (by omega) (aw x0) (aw x6) n 0 h2 (by omega) (by omega) (by simpa using B)).mono λ_ h3 B=>?_;rw[ag];obtain⟨p,t,g,hp,hs',z⟩:=id B;have z:Z h0 h3 (.aD b ((iota ts.length).map vi) ay::([]++(C.own p t 0 (l++[100]) g++(NB C x ks is x0 x6++L)))):=Z.lA (pre:=[_,_,_]) z [2,0,1] (by simp only[aae,aam];decide);have hst:Cx.St ⟨h0,b,ts.length,Xa x0 x6,0,λX=>X=C.own p t 0 (l++[100]) g++(NB C x ks is x0 x6++L)⟩ [] h3 (iota ts.length):=⟨C.own p t 0 (l++[100]) g++(NB C x ks is x0 x6++L),rfl,z⟩;refine (so.2.2 ⟨h0,b,ts.length,Xa x0 x6,0,λX=>X=C.own p t 0 (l++[100]) g++(NB C x ks is x0 x6++L)⟩ [] h3 n rfl ?_ hn7 hst).mono λ_ h4 hx=>?_
  .intro n' u v h R X _ hu1 hu2 hv1 hv2 hX z;subst hX;have z':=z.perm acd;rw[aas] at z';have B':np h0 h C 0 (l++[100]) (NB C x ks is x0 x6++(L++R)):=⟨p,t,g,hp,hs',by simpa using z'⟩;refine (T0 B' G ik k ⟨hu1,hu2⟩ ⟨hv1,hv2⟩).mono λr h' hr=>?_;obtain⟨rfl,rfl⟩:=hr;exact⟨rfl,_,rfl,z⟩
  .obtain⟨_,rfl,z⟩:=hx;have B:np h0 h4 C 0 (l++[100]) (NB C x ks is x0 x6++(.aD b (r.map vi) ay::L)):=⟨p,t,g,hp,hs',Z.lA (pre:=[_,_,_,_,_]) z [1,2,3,4,0] (by simp only[aae,aam];decide)⟩;have hrl:=so.2.1;rw[ag,<-hrl];refine (Xb hM hW G hT ik ii k (by omega) n 0 0 b1 c' _ h4 (by omega) (by omega) (by simpa using hs) (by rw[aaa,aaD];omega) B).mono λ_ h5 B=>?_;refine B.ld 1 (lf:=.ptr) (x:=some (aw C.b)) (cU ?_);rw[ag];refine (wV (b:=101) rfl B (by rw[aaa,aaa,aaD];omega)).mono λ_ h6 B=>?_;rw[ah];have B:=B.drop.drop.drop;simpa using B
theorem T6 {M:Nat}(hM:M<1073741824)(G:mE h0 C.s N)(hB:Bd N M)(hT:∀x∈N,x.text.size<=65536):∀d,NW h0 C N M d:=by
 intro d
 induction d with
 |zero=>intro n a c bs c' l h L hp;exact hp.elim
 |succ d ih=>
  intro n a c bs c' l h L hp hn hl B;have hmul:(d+1)*(M+10)=d*(M+10)+(M+10):=acB _ _;obtain⟨n,rfl⟩:∃m,n=m+1:=⟨n-1,by omega⟩;obtain⟨x,hx,hp⟩:=hp;obtain⟨g1,g2⟩:=bH hx;have hxm:=OF g2;have hbd:=hB.2.2 x hxm;rw[qI];unfold jn;refine B.new λx0 h1 B=>?_;refine B.ld 0 (lf:=.ptr) (x:=some (aw C.b)) (cU (B.gr ?_));obtain⟨p,t,g,h2,h3,z⟩:=id B;refine G.at z g1 g2 λaa ks is nd ik ii=>nd.jV ?_;refine B.node λx6 h2 B=>?_;have B:np h0 h2 C c l (NB C x ks is x0 x6++L):=B;refine B.ld 1 (lf:=.ptr) (x:=some (aw C.b)) (cU (B.er ?_));rcases hp with⟨hc,rfl,rfl⟩|⟨rfl,w,hw,hp⟩
  .rw[By (by simpa using hc)];exact Mu hM ih G hB hT hx ik ii (by omega) hl (.inl ⟨hc,rfl,rfl⟩) B
  .rw[BY (by rfl)];refine B.ld 1 (lf:=.ptr) (x:=some (aw C.b)) ?_;refine B.ld 1 (lf:=.ptr) (x:=some (aw C.b)) ?_;refine B.jV 0 (ls:=[li,.str,.bool,.sl,.sl]) (x:=(x.kind,x.text,x.ord,ks,is)) ?_;refine wO (P:=λr h'=>r=w/\np h0 h' C 0 l (NB C x ks is x0 x6++L)) (λa ha=>?_) (R9 B G ik (by omega) (hT x hxm) hw (by omega)) λr h3 hr=>?_
   .simp only[abz,IN,abw,ab9] at ha;subst ha;obtain⟨p,t,g,h2,h3,z⟩:=id B;refine⟨_,_,z.get 3 rfl,λr1 h3 hr1=>?_⟩;obtain⟨_,p,t,g,h2,h3,z⟩:=hr1;exact z.get 3 rfl
   .obtain⟨rfl,B⟩:=hr;refine cU (B.set λh4 B=>?_);refine Mu hM ih G hB hT hx ik ii (by omega) hl ?_ B;rcases hp with⟨h1,h2,h3⟩|⟨h1,hp⟩
    .exact .inl ⟨h1,h2,h3⟩
    .exact .inr ⟨h1,hp⟩
end
end
section
variable {α β:Type}{h h' h0:af}{L:List dh}{Q:β->af->Prop}
section
variable {s:Sl}{root:Int}{N:List aq}{H:Int->Nat}
structure CY where
 x5:Nat
 bm:Nat
 x7:Nat
 x0:Nat
 x8:Nat
 x9:Nat
def CY.fn (c:CY):ξ:=Value.func (Fn.func lY) #[] #[pv c.x5,pv c.x7,pv c.x0,pv c.x8,pv c.x9]
def CY.own (c:CY)(N:List aq)(s:Sl)(root:Int)(ms os:ε)(so:Sl)(g:Nat):List dh:=
 [.aD c.x5 [aS (arr c.bm N.length)] cw,.aD c.bm (ms.map vi) ay,.aD c.x7 [aS so] cw,.ps so 1 ay (os.map vi) g,.aD c.x0 [aS s,vi root] aj,.aD c.x9 [c.fn] wo]
structure YI (N:List aq) (H:Int->Nat) (c b:Nat) (ms os:ε):Prop where
 l1:ms.length=N.length
 c:ms.count 0<=c
 p:os.length+ms.count 0<=N.length
 op:∀j,gt ms j=some 1->b<=H j
def YP (C:CY)(N:List aq)(H:Int->Nat)(s:Sl)(root:Int)(c b:Nat)(ms os:ε)(h0:af)(L:List dh)(h':af):Prop:=
 ∃ms' so g,YI N H c b ms' os/\ms'.count 0<=ms.count 0/\(∀j,gt ms' j=some 1->gt ms j=some 1)/\Z h0 h' (C.own N s root ms' os so g++L)
theorem He {ms:ε}{i:Nat}{v w:Int}(h:ms[i]?=some w)(hv:v≠0):(ms.set i v).count 0+(if w=0 then 1 else 0)=ms.count 0:=by
 induction ms generalizing i with
 |nil=>cases h
 |cons b ms ih=>
  cases i with
  |zero=>
   cases h;rw[abp,aa7,aa7];simp[hv]
  |succ i=>
   rw[aaO] at h;rw[abo,aa7,aa7,<-ih h];omega
theorem KN {ms:ε}{i j v:Int}(hi:0<=i)(hl:i.toNat<ms.length):gt (ms.set i.toNat v) j=if j=i then some v else gt ms j:=by
 unfold gt;by_cases h:j=i
 .subst h;rw[BY hi,BY rfl,aaw hl]
 .rw[By h];by_cases hj:0<=j
  .rw[BY hj,BY hj,aa1 (by omega)]
  .rw[By hj,By hj]
def PY (C:CY)(N:List aq)(H:Int->Nat)(s:Sl)(root:Int)(B c:Nat)(h0:af):Prop:=
 ∀(n:Nat) (a:Int) (ms os:ε) (so:Sl) (g:Nat) (h:af) (L:List dh),c*(B+3)+3*B+66020<=n->gt ms a=some 0->YI N H c (H a) ms os->Z h0 h (C.own N s root ms os so g++L) ->
  Wp (fJ n a (aw C.x5) (aw C.x7) (aw C.x0) (aw C.x8) (aw C.x9)) h λy h'=>y=false/\YP C N H s root c (H a) ms os h0 L h'
def QY (C:CY)(N:List aq)(H:Int->Nat)(s:Sl)(root:Int)(B c:Nat)(h0:af):Prop:=
 ∀(n i:Nat) (a:Int) (x:aq) (b:Nat) (r ms os:ε) (so:Sl) (g:Nat) (h:af) (L:List dh),c*(B+3)+3*B+66020+(r.length-i)+1<=n->i<=r.length->r.length<=B->(∀p∈r,0<=p/\p<(x.items.length:Int))->gt N a=some x->YI N H c (H a) ms os ->
  Z h0 h (C.own N s root ms os so g++.aD b (r.map vi) ay::L) ->
  Wp (eH n a (aw C.x5) (aw C.x7) (aw C.x0) (aw C.x8) (aw C.x9) (arr b r.length) (r.length:Int) (i:Int)) h λy h'=>y=.inl ()/\YP C N H s root c (H a) ms os h0 (.aD b (r.map vi) ay::L) h'
theorem Sa (G:mE h0 s N){B:Nat}(hB:Bd N B)(hH:∀a x,gt N a=some x->∀y∈x.items,H y<H a/\∃z,gt N y=some z){C:CY}{c:Nat}(hP:PY C N H s root B c h0):QY C N H s root B c h0:=by
 have hB1:=hB.1;have hB2:=hB.2.1;intro n
 induction n with
 |zero=>intro i a x b r ms os so g h L h1;omega
 |succ n ih=>
  intro i a x b r ms os so g h L hn hi hr hp hx I z;rw[vg];unfold mA;by_cases hlt:i<r.length
  .rw[BY (by simp;omega)];obtain⟨p,hpi⟩:=gU hlt;have hpr:=hp p (OF hpi);obtain⟨q,hq⟩:=gU (l:=x.items) (i:=p.toNat) (by omega);have hgq:gt x.items p=some q:=by unfold gt;rw[BY hpr.1];exact hq
   obtain⟨hHq,y,hy⟩:=hH a x hx q (OF hq);obtain⟨y1,y2⟩:=bH hy;have y3:=aY y2;obtain⟨mb,hmb⟩:=gU (l:=ms) (i:=q.toNat) (by have:=I.l1;omega);have hgm:gt ms q=some mb:=by unfold gt;rw[BY y1];exact hmb
   refine yL (b:=b) (m:=r.length) (by omega) (by omega) ?_;refine z.ld 6 (o:=(i:Int).toNat) (l:=li) (x:=p) ?_ rfl (by rw[aac,aaj,hpi];rfl) rfl;refine G9 z G (i:=4) rfl hx hgq ?_;refine z.ld 0 (o:=0) (l:=.sl) (x:=arr C.bm N.length) ?_;refine yL (b:=C.bm) (m:=N.length) y1 (by omega) ?_;refine z.ld 1 (o:=q.toNat) (l:=li) (x:=mb) ?_ rfl (by rw[aaj,hmb];rfl) rfl;have hm1:mb≠1:=λe=>by
    subst e;have:=I.op q hgm;omega
   rw[By (by simpa using hm1)];refine z.ld 0 (o:=0) (l:=.sl) (x:=arr C.bm N.length) ?_;refine yL (b:=C.bm) (m:=N.length) y1 (by omega) ?_;refine z.ld 1 (o:=q.toNat) (l:=li) (x:=mb) ?_ rfl (by rw[aaj,hmb];rfl) rfl;rw[vV hi (by omega)];by_cases hm0:mb=0
   .subst hm0;rw[BY (by rfl)];refine z.ld 5 (o:=0) (l:=.raw) (x:=C.fn) ?_;unfold lR;rw[BY (by rfl),ag,ag];refine lG (c:=(aw C.x5,aw C.x7,aw C.x0,aw C.x8,aw C.x9)) rfl ?_;refine (hP n q ms os so g h _ (by omega) hgm ⟨I.l1,I.c,I.p,λj hj=>by have:=I.op j hj;omega⟩ z).mono λ_ h2 hy=>?_;obtain⟨rfl,ms',so',g',I',hc,hs,z⟩:=hy;rw[By (by simp)];refine (ih (i+1) a x b r ms' os so' g' h2 L (by omega) (by omega) hr hp hx ⟨I'.l1,I'.c,I'.p,λj hj=>I.op j (hs j hj)⟩ z).mono λ_ h3 hy=>?_;obtain⟨rfl,ms2,so2,g2,I2,hc2,hs2,z⟩:=hy;exact⟨rfl,ms2,so2,g2,I2,by omega,λj hj=>hs j (hs2 j hj),z⟩
   .rw[By (by simpa using hm0)];exact ih (i+1) a x b r ms os so g h L (by omega) (by omega) hr hp hx I z
  .rw[By (by simp;omega),ah];exact⟨rfl,ms,so,g,I,aai _,λ_ hj=>hj,z⟩
theorem O1 (G:mE h0 s N){B:Nat}(hB:Bd N B)(hT:∀x∈N,x.kind=10->x.ord=false->∃ts,TK N x ts){C:CY}{c:Nat}(hQ:QY C N H s root B c h0):PY C N H s root B (c+1) h0:=by
 have hB1:=hB.1;have hB2:=hB.2.1;intro n a ms os so g h L hn ha I z;obtain⟨a1,a2⟩:=bH ha;have a3:=aY a2;have hl1:=I.l1;have hc1:=I.c;have hc2:=I.p;have hcs:=He (v:=1) a2 (by decide);rw[BY rfl] at hcs;obtain⟨x,hx⟩:=gU (l:=N) (i:=a.toNat) (by omega);have hgx:gt N a=some x:=by unfold gt;rw[BY a1];exact hx
 have hbd:=hB.2.2 x (OF hx);have hmul:(c+1)*(B+3)=c*(B+3)+(B+3):=acB _ _;obtain⟨n,rfl⟩:∃m,n=m+1:=⟨n-1,by omega⟩;rw[xG];unfold pN;refine z.ld 0 (o:=0) (l:=.sl) (x:=arr C.bm N.length) ?_;refine yL (b:=C.bm) (m:=N.length) a1 (by omega) ?_;refine z.zX 1 (xs:=ms) (enc:=vi) (v:=1) (by omega) λh2 z=>?_;refine z.ld 2 (o:=0) (l:=.sl) (x:=so) ?_;have hso:so.len=os.length:=(vA.DE (z.get 3 rfl)).CL;refine z.M9 3 (new:=[vi a]) rfl (by decide) rfl (by unfold cN;omega) λso' h3 g' hs' z _=>?_;refine z.st 2 λh4 z=>?_;refine z.jV 4 (ls:=[.sl,li]) (x:=(s,root)) ?_;have z:Z h0 h4 (C.own N s root (ms.set a.toNat 1) (os++[a]) so' g'++L):=by rw[CY.own,aa6];exact z
 rw[ag];refine (EN z G hB hgx (hT x (OF hx)) (by omega)).mono λy h5 hy=>?_;obtain⟨b,r,rfl,hr,z⟩:=hy;have hrl:r.length=x.items.length:=by rw[hr.length_eq,mW]
 have z:Z h0 h5 (C.own N s root (ms.set a.toNat 1) (os++[a]) so' g'++.aD b (r.map vi) ay::L):=z.perm List.perm_middle.symm;rw[ag,<-hrl];refine (hQ n 0 a x b r _ _ so' g' h5 L (by omega) (by omega) (by omega) (λp hp=>uA (hr.mem_iff.1 hp)) hgx ⟨by simp[hl1],by omega,by rw[aaa,aaD];omega,λj hj=>?_⟩ z).mono λy h6 hy=>?_
 .rw[KN a1 a3] at hj;split at hj
  .rename_i e;rw[e];exact aai _
  .exact I.op j hj
 .obtain⟨rfl,ms',so2,g2,I',hc',hs2,z⟩:=hy;have hl':=I'.l1;have hps:vA h6 so2 1 ay ((os++[a]).map vi) g2:=z.get 3 rfl;have hsl:so2.len=os.length+1:=by rw[hps.DE.CL,aaa];rfl
  have e1:IntKind.i64.wrap ((so2.len:Int)-1)=((so2.len:Nat):Int)-1:=IntWalk.i64_in _ ⟨by omega,by omega⟩;obtain⟨w,hw⟩:=gU (l:=ms') (i:=a.toNat) (by omega);have hcw:=He (v:=2) hw (by decide);show Wp (AI (ar .sl (aw C.x5)) _) _ _;refine z.ld 0 (o:=0) (l:=.sl) (x:=arr C.bm N.length) ?_;refine yL (b:=C.bm) (m:=N.length) a1 (by omega) ?_;refine z.zX 1 (xs:=ms') (enc:=vi) (v:=2) (by omega) λh7 z=>?_;refine z.ld 2 (o:=0) (l:=.sl) (x:=so2) ?_;refine z.ld 2 (o:=0) (l:=.sl) (x:=so2) ?_;rw[e1];refine z.XS 3 (cs:=os.map vi) (v:=vi a) (g:=g2) (by show some (dh.ps so2 1 ay ((os++[a]).map vi) g2)=_;rw[aa6];rfl) λso3 hs3 z=>?_;refine z.st 2 λh8 z=>?_;rw[ah];have back:∀j,gt (ms'.set a.toNat 2) j=some 1->gt ms j=some 1:=λj hj=>by
   rw[KN a1 (by omega)] at hj;split at hj
   .cases hj
   .rename_i hne;have:=hs2 j hj;rw[KN a1 a3,By hne] at this;exact this
  refine⟨rfl,ms'.set a.toNat 2,so3,g2,⟨by simp[hl'],by split at hcw<;>omega,by split at hcw<;>omega,λj hj=>I.op j (back j hj)⟩,by split at hcw<;>omega,back,?_⟩;exact z.sub (abJ (aa2 _ _) _)
theorem T7 (G:mE h0 s N){B:Nat}(hB:Bd N B)(hT:∀x∈N,x.kind=10->x.ord=false->∃ts,TK N x ts)(hH:∀a x,gt N a=some x->∀y∈x.items,H y<H a/\∃z,gt N y=some z)(C:CY):∀c,PY C N H s root B c h0:=by
 intro c
 induction c with
 |zero=>
  intro n a ms os so g h L hn ha I z;have h7:=He (v:=1) (bH ha).2 (by decide);rw[BY rfl] at h7;have:=I.c;omega
 |succ c ih=>exact O1 G hB hT (Sa G hB hH ih)
theorem O2 (z:Z h0 h L)(G:mE h0 s N){B:Nat}(hB:Bd N B)(ht:∀x∈N,x.text.size<=65536)(hT:∀x∈N,x.kind=10->x.ord=false->∃ts,TK N x ts)(hH:∀a x,gt N a=some x->∀y∈x.items,H y<H a/\∃z,gt N y=some z){r0:aq}(hr:gt N root=some r0){k n:Nat}(hn:k+B*(B+3)+4*B+66020<=n)(hv:sq k N root=some 0) :
  Wp (rl n (s,root)) h λy h'=>y.2=false/\Z h0 h' L:=by
 have hB1:=hB.1;have hB2:=hB.2.1;unfold rl;refine z.new λx0 h1 z _=>?_;refine z.jV 0 (ls:=[.sl,li]) (x:=(s,root)) ?_;rw[ag];refine (qo z G hB ht (by omega) hv).mono λy h2 hy=>?_;obtain⟨rfl,z⟩:=hy;rw[By (by simp)];refine z.ld 0 (o:=0+0) (l:=.sl) (x:=s) ?_;rw[G.len];refine z.DV (by omega) (by unfold cN;omega) λbm h3 z _=>?_;rw[aac] at z⊢;rw[l6 (enc:=vi)] at z;refine z.new λx5 h4 z _=>z.st 0 λh5 z=>?_;refine z.new λx7 h6 z _=>?_;refine z.new λx8 h7 z _=>?_;refine z.new λx9 h8 z _=>z.st 0 λh9 z=>?_;refine z.ld 0 (o:=0) (l:=.raw) (x:=(⟨x5,bm,x7,x0,x8,x9⟩:CY).fn) ?_;refine z.ld 5 (o:=0+1) (l:=li) (x:=root) ?_;have z:=z.add (Fr.refl z.wf) (o:=.ps ⟨none,0,0⟩ 1 ay [] 0) vA.nil (.inl rfl);have z:Z h0 h9 ((⟨x5,bm,x7,x0,x8,x9⟩:CY).own N s root (List.replicate N.length 0) [] jb 0++.aD x8 [aS jb] cw::L):=Z.lA (pre:=[_,_,_,_,_,_,_]) z [4,5,3,0,6,1,2] (by simp only[aae,aam];decide);obtain⟨g1,g2⟩:=bH hr;have g3:=aY g2;rw[ag];unfold pO;rw[BY (by rfl),ag];refine lG (c:=(aw x5,aw x7,aw x0,aw x8,aw x9)) rfl ?_;have hmul:N.length*(B+3)<=B*(B+3):=abg _ hB1;refine (T7 G hB hT hH _ N.length n root (List.replicate N.length 0) [] jb 0 h9 _ (by omega) (by unfold gt;rw[BY g1,abK,BY g3]) ⟨aax,by simp,by simp,λj hj=>?_⟩ z).mono λy h10 hy=>?_
 .obtain⟨j1,j2⟩:=bH hj;rw[abK] at j2;split at j2<;>cases j2
 .obtain⟨rfl,ms,so,g,I,_,_,z⟩:=hy;refine z.ld 6 (o:=0) (l:=.sl) (x:=jb) ?_;rw[ah];exact⟨rfl,z.drop.drop.drop.drop.drop.drop.drop⟩
end
end
section
variable {α β:Type}{h h' h0:af}{L:List dh}{Q:β->af->Prop}
theorem Sb:∀{a b:List UInt8},Op.bytesLess a b=true->¬Lib.compareBytes b a<0
 |_,[],h=>by simp[Op.bytesLess] at h
 |[],_::_,h=>by unfold Lib.compareBytes;decide
 |a::as',b::bs,h=>by
  unfold Op.bytesLess at h;unfold Lib.compareBytes;simp only[abt,IT,aaf,beq_iff_eq] at h;rcases h with h|⟨rfl,h⟩
  .rw[By (UInt8.not_lt.2 (UInt8.le_of_lt h)),BY h];decide
  .rw[By (UInt8.lt_irrefl _),By (UInt8.lt_irrefl _)];exact Sb h
theorem Xc {a b:ζ}(h:zM a b=true):¬Lib.compareBytes b.data.toList a.data.toList<0:=by
 unfold zM at h;rw[ByteArray.toList_eq,ByteArray.toList_eq] at h;exact Sb h
theorem T8 {ts:List ζ}(hm:ts.length<=1000)(ha:ts.Pairwise λa b=>zM a b=true):ZK ts (iota ts.length):=by
 refine⟨λp hp=>uA hp,mW _,λc P h n h1 h2 h3 h4=>?_⟩;refine TW (cv:=Xn ts) ⟨mW _,λv hv=>uA hv⟩ ?_ hm c P h n h1 h2 (by omega) h4;intro i j hi hij hj;have e:∀k:Int,0<=k->k<(ts.length:Int)->OZ (iota ts.length) k=k:=λk k1 k2=>by
  unfold OZ;rw[Ds (by omega)];show ((k.toNat:Nat):Int)=k;omega
 rw[e j (by omega) hj,e i hi (by omega)];obtain⟨a,h5⟩:=Mt (ts:=ts) (p:=i) hi (by omega);obtain⟨b,h6⟩:=Mt (ts:=ts) (p:=j) (by omega) hj;unfold Xn;rw[h5,h6];obtain⟨_,h7⟩:=bH h5;obtain⟨_,h8⟩:=bH h6;obtain⟨i1,rfl⟩:=List.getElem?_eq_some_iff.1 h7;obtain⟨j1,rfl⟩:=List.getElem?_eq_some_iff.1 h8;exact Xc (List.pairwise_iff_getElem.1 ha _ _ i1 j1 (by omega))
theorem Mv {N:List aq}:∀{ks:ε},(∀k∈ks,∃y,gt N k=some y/\y.kind=5)->Jl N ks=some 0
 |[],_=>rfl
 |k::ks,h=>by
  obtain⟨y,h1,h2⟩:=h k aaz;rw[Jl,h1];simp only;rw[BY h2];exact Mv λk hk=>h k (aan _ hk)
def Sy (i:Nat):Nat->ε
 |0=>[]
 |k+1=>(i:Int)::Sy (i+1) k
theorem Sc (m:Nat):iota m=Sy 0 m:=by
 have:∀(k i:Nat),(List.range' i k).map (λj:Nat=>(j:Int))=Sy i k:=λk=>by
  induction k with
  |zero=>intro i;rfl
  |succ k ih=>intro i;rw[abU,aaK,ih,Sy]
 unfold iota;rw[acV,this]
theorem Sd:∀l:s9,(kL l).length<=(qN l).length
 |.nil=>abO _
 |.cons k v l=>by
  have:=Sd l;simp only[kL,qN,uw,aae,aaa];omega
mutual
theorem Hf {N:List aq}:∀(v:tW) (b d:Nat),Pt N b (fK b v)->IU d v->(enc v).length<=1000->PR N (34-d) (b:Int) 0 (enc v) 0
 |.int t,b,d,p,h,hs=>by
  rw[fK] at p;obtain⟨p1,_⟩:=p.cons;rw[show 34-d=(33-d)+1 by have:=h.1;omega];exact⟨_,by rw[kD];exact p1,.inr ⟨rfl,0,rfl,.inr ⟨rfl,.inl ⟨rfl,rfl,rfl⟩⟩⟩⟩
 |.str t,b,d,p,h,hs=>by
  rw[fK] at p;obtain⟨p1,_⟩:=p.cons;rw[show 34-d=(33-d)+1 by have:d<=32:=h;omega];refine⟨_,by rw[kD];exact p1,.inr ⟨rfl,0,?_,.inr ⟨rfl,.inr (.inl ⟨?_,rfl,rfl⟩)⟩⟩⟩
  .cases hu:u8 t<;>simp[YR,W9,hu]
  .cases hu:u8 t<;>simp
 |.list l,b,d,p,h,hs=>by
  rw[fK] at p;obtain⟨p1,p2⟩:=p.cons;have hd:=h.1;simp only[enc,aae,aaa,aam] at hs;rw[show 34-d=(34-(d+1))+1 by omega];exact⟨_,by rw[kD];exact p1,.inr ⟨rfl,0,rfl,.inr ⟨rfl,.inr (.inr (.inl ⟨rfl,_,Jm l (b+1) (d+1) p2 h.2 (by omega),rfl⟩))⟩⟩⟩
 |.map l,b,d,p,h,hs=>by
  rw[fK] at p;obtain⟨p1,p2⟩:=p.cons;have hd:=h.1;simp only[enc,aae,aaa,aam] at hs;have hkl:=Sd l;rw[show 34-d=(34-(d+1))+1 by omega];obtain⟨_,asc⟩:=KK l (d+1) none h.2;refine⟨_,by rw[kD];exact p1,.inr ⟨rfl,0,?_,.inr ⟨rfl,.inr (.inr (.inr ⟨rfl,kL l,iota (kL l).length,qN l,⟨BZ l _,λi t ht=>?_⟩,Ha l _,T8 (by omega) asc,?_,rfl⟩))⟩⟩⟩
  .show Jl N (gV (b+1) l)=some 0;refine Mv λk hk=>?_;obtain⟨i,hi⟩:=List.mem_iff_getElem?.1 hk;obtain⟨t,ht⟩:=gU (l:=kL l) (i:=i) (by rw[<-BZ l (b+1)];exact aY hi);obtain⟨k',h1,h2⟩:=Hb l (b+1) p2 i t ht;rw[hi] at h1;cases h1;exact⟨_,h2,rfl⟩
  .obtain⟨k,h1,h2⟩:=Hb l (b+1) p2 i t ht;exact⟨k,_,h1,h2,rfl⟩
  .rw[Sc];exact Jn l (b+1) (d+1) none 0 p2 h.2 (by omega) (λj=>by rw[aab]) λj=>by rw[aab]
theorem Jm {N:List aq}:∀(l:Az) (b d:Nat),Pt N b (kM b l)->Sw d l->(vW l).length<=1000->Seq (PR N (34-d)) (rB b l) 0 (vW l) 0
 |.nil,b,d,p,h,hs=>⟨rfl,rfl⟩
 |.cons v l,b,d,p,h,hs=>by
  rw[kM] at p;simp only[vW,aaa] at hs;obtain⟨p1,p2⟩:=p.split;rw[cp] at p2;exact⟨_,0,_,Hf v b d p1 h.1 (by omega),Jm l _ d p2 h.2 (by omega),rfl⟩
theorem Jn {N:List aq}{ts:List ζ}{is:ε}:∀(l:s9) (b d:Nat) (last:Option ζ) (i:Nat),Pt N b (iJ b l)->L9 d last l->(qN l).length<=1000 ->
  (∀j,ts[i+j]?=(kL l)[j]?)->(∀j,is[i+j]?=(jh b l)[j]?)->KM ts is (PR N (34-d)) (Sy i (kL l).length) 0 (qN l) 0
 |.nil,b,d,last,i,p,h,hs,h1,h2=>⟨rfl,rfl⟩
 |.cons k v l,b,d,last,i,p,h,hs,h1,h2=>by
  rw[iJ] at p;simp only[qN,aaa] at hs;obtain⟨p1,p2⟩:=p.cons;obtain⟨p3,p4⟩:=p2.split;rw[cp] at p4;rw[kL,aae,Sy];refine⟨k,((b+1:Nat):Int),enc v,0,qN l,?_,?_,Hf v (b+1) d p3 h.2.2.2.1 (by omega),Jn l _ d _ (i+1) p4 h.2.2.2.2 (by omega) (λj=>?_) (λj=>?_),rfl⟩
  .rw[kD];have:=h1 0;rwa [aaG] at this
  .rw[kD];have:=h2 0;rwa [aaG] at this
  .have:=h1 (j+1);rw[kL,aaO] at this;rw[<-this];congr 1;omega
  .have:=h2 (j+1);rw[jh,aaO] at this;rw[<-this];congr 1;omega
end
theorem np.out {C:PB}{e:Int}{l:List UInt8}{o:dh}(B:np h0 h C e l (o::L)):Z h0 h L:=by
 obtain⟨p,t,g,h1,h2,z⟩:=B;exact z.drop.drop.drop
theorem Se {s:Sl}{root:Int}{N:List aq}(z:Z h0 h L)(G:mE h0 s N){B:Nat}(hB:Bd N B)(ht:∀x∈N,x.text.size<=65536){H:Int->Nat}(hT:∀x∈N,x.kind=10->x.ord=false->∃ts,TK N x ts)(hH:∀a x,gt N a=some x->∀y∈x.items,H y<H a/\∃z,gt N y=some z){r0:aq}(hr0:gt N root=some r0)
  {r:ε} (hr:OX N root=some r) (h1:∀v∈r,v<=1) {k n d:Nat} (hn:k+B*(B+3)+4*B+d*(B+10)+67020<=n) (hv:sq k N root=some 0) {bs:List UInt8} {c:Int} (hp:PR N d root 0 bs c) (hb:bs.length<=cN) :
  Wp (dX n (s,root)) h λy h'=>y=(if c≠0 then (ofBytes [],c) else if 65536<bs.length then (ofBytes [],6) else (ofBytes bs,0))/\Z h0 h' L:=by
 have hB1:=hB.1;have hB2:=hB.2.1;unfold dX;generalize hres:(if c≠0 then (ofBytes [],c) else if 65536<bs.length then (ofBytes [],6) else (ofBytes bs,0):ζ×Int)=res;refine z.new λx0 h1' z _=>?_;refine z.jV 0 (ls:=[.sl,li]) (x:=(s,root)) ?_;rw[ag];refine (qo z G hB ht (by omega) hv).mono λy h2 hy=>?_;obtain⟨rfl,z⟩:=hy;rw[By (by simp)];refine z.jV 0 (ls:=[.sl,li]) (x:=(s,root)) ?_;rw[ag];refine (O2 z G hB ht hT hH hr0 (k:=k) (by omega) hv).mono λy h3 hy=>?_;obtain⟨hy,z⟩:=hy;rw[By (by simp[hy])];refine z.jV 0 (ls:=[.sl,li]) (x:=(s,root)) ?_;rw[ag];refine (TU z G hB ht (k:=k) (by omega) hv hT (λx hx y hy=>?_) hr0 hr h1).mono λy h4 hy=>?_
 .obtain⟨i,hi⟩:=List.mem_iff_getElem?.1 hx;exact (hH (i:Int) x (by rw[kD];exact hi) y hy).2
 obtain⟨rfl,z⟩:=hy;rw[By (by simp)];refine z.jV 0 (ls:=[.sl,li]) (x:=(s,root)) ?_;refine z.new λx8 h5 z _=>?_;refine z.ld 1 (o:=0+1) (l:=li) (x:=root) ?_;have z:=z.add (Fr.refl z.wf) (o:=.sl jb 1 uf [] 0) sF.nil (.inl rfl);have P:np h0 h5 ⟨x8,s,root⟩ 0 [] (.aD x0 [aS s,vi root] aj::L):=⟨none,jb,0,.inl rfl,λ_=>rfl,Z.lA (pre:=[_,_,_]) z [1,0,2] (by simp only[aae,aam];decide)⟩;rw[ag];refine (T6 (C:=⟨x8,s,root⟩) hB2 G hB ht d n root 0 bs c [] h5 _ hp (by omega) (by rw[aam];omega) P).mono λ_ h6 P=>?_;rw[aaP] at P;refine cU (P.er ?_);by_cases hc:c=0
 .subst hc;rw[By (by simp)];refine cU ?_;rw[ag];refine (TX P).mono λy h7 hy=>?_;obtain⟨rfl,P⟩:=hy;rw[By (by simp)] at hres;by_cases hl:65536<bs.length
  .rw[BY hl] at hres;rw[BY (by simp;omega),ah];exact⟨hres,P.out⟩
  .rw[By hl] at hres;rw[By (by simp;omega)];refine cU ?_;rw[ag];refine (TY P (by omega)).mono λy h8 hy=>?_;obtain⟨rfl,z⟩:=hy;rw[ah];exact⟨hres,z.drop⟩
 .rw[BY (by simpa using hc)];refine cU (P.er ?_);rw[BY hc] at hres;rw[ah];exact⟨hres,P.out⟩
end
end Go.Sh
