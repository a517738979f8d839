
import Derived.Test.YtajnpfnomgjlaaaGreatDoorPah
set_option linter.all false
namespace Go.Sh
open Go Go.Ago Go.Proofs
variable {α β:Type}{h h' h0:ai}{L:List bG}{Q:β->ai->Prop}
abbrev vb (b:UInt8):ξ:=.int .u8 (b.toNat:Int)
theorem Zb {m:M α}{f x h1}(e:m h=some (x,h1))(q:Wp (f x) h1 Q):Wp (sh m f) h Q:=by
 rw[ah];exact⟨x,h1,e,q⟩
abbrev Hu (pb:Nat):Addr:=⟨pb,2,none⟩
structure PB where
 b:Nat
 s:Sl
 root:Int
abbrev PB.cells (C:PB)(p:θ)(t:Sl)(e:Int):δ:=[aI C.s,vi C.root,.pointer p,aI t,vi e]
abbrev PB.own (C:PB)(p:θ)(t:Sl)(e:Int)(l:List UInt8)(g:Nat):List bG:=[.au C.b (C.cells p t e) jv,.sl t 1 jT (l.map vb) g]
def rf (h0 h:ai)(C:PB)(e:Int)(l:List UInt8)(L:List bG):Prop:=∃p t g,(p=none\/p=some (Hu C.b))/\(l=[]->t=qQ)/\Z h0 h (C.own p t e l g++L)
section
variable {C:PB}{e:Int}{l:List UInt8}
theorem N5 {n}(b:rf h0 h C e l L):Wp (fU n (some (Hu C.b))) h λ_ h'=>rf h0 h' C e l L:=by
 obtain⟨p,t,g,hp,hs,z⟩:=b;unfold fU;refine aS ?_;refine z.ld 0 ?_;rcases hp with rfl|rfl
 .rw[By (by rfl)];have lb:LB h C.b (C.cells none t e) jv:=z.get 0 rfl;refine aS ?_;refine Zb (by unfold inB;simp only[lb.get];rfl) ?_;unfold rV;rw[ah,ag];refine aS ?_;refine Zb (by unfold atB;simp only[lb.get];rw[By ⟨trivial,.inr rfl⟩]) ?_;refine aS ?_;refine z.st 0 λh1 z1=>ag.2 ⟨some (Hu C.b),t,g,.inr rfl,hs,z1⟩
 .rw[AT (by simp)];refine aS ?_;refine z.ld 0 ?_;refine Zb (x:=true) (h1:=h) (by unfold ZB;simp) ?_;rw[AT (by simp)];exact ag.2 ⟨some (Hu C.b),t,g,.inr rfl,hs,z⟩
theorem FJ {p t g}(z:Z h0 h (C.own p t e l g++L)):t.len=l.length:=by
 have o:ue h t 1 jT (l.map vb) g:=z.get 1 rfl;have:=o.1;simp at this;omega
theorem Ab {n b c}(hc:c=(b.toNat:Int))(B:rf h0 h C e l L)(hl:l.length+1<=cF):Wp (cy n (some (Hu C.b)) c) h λ_ h'=>rf h0 h' C e (l++[b]) L:=by
 subst hc;unfold cy;rw[ah];refine (N5 B).mono λ_ h1 B=>?_;obtain⟨p,s,g,hp,hs,z⟩:=B;refine aS ?_;refine z.ld 0 (x:=s) ?_;have hsl:=FJ z;refine Z.NY z 1 rfl (by decide) rfl (by rw[hsl];exact hl) λs' h2 g' hs' z2 _=>?_;refine aS ?_;have z2:Z h0 h2 (.au C.b (C.cells p s e) jv::.sl s' 1 jT ((l++[b]).map vb) g'::L):=by grind
 refine z2.st 0 λh3 z3=>ag.2 ⟨p,s',g',hp,λe=>by simp at e,z3⟩
theorem LL {n t}(B:rf h0 h C e l L)(hl:l.length+t.size<=cF):Wp (dQ n (some (Hu C.b)) t) h λ_ h'=>rf h0 h' C e (l++t.data.toList) L:=by
 unfold dQ;rw[ah];refine (N5 B).mono λ_ h1 B=>?_;obtain⟨p,s,g,hp,hs,z⟩:=B;refine aS ?_;refine z.ld 0 (x:=s) ?_;have hsl:=FJ z;by_cases ht:t.size=0
 .have e1:t.data.toList=[]:=List.length_eq_zero_iff.1 ht;have e2:fO t=[]:=by grind [fO]
  rw[ht,e2,ah];have o:ue h1 s 1 jT (l.map vb) g:=z.get 1 rfl;refine⟨s,h1,?_,?_⟩
  .show oK false s 1 jT 0 [] h1=some (s,h1);unfold oK;rw[By rfl];rcases o.2 with⟨rfl,_⟩|⟨_,_,_,b,base,e,_⟩
   .simp
   .rw[e];simp
  .refine aS ?_;rw[e1,agA];refine z.st 0 λh3 z3=>ag.2 ⟨p,s,g,hp,hs,z3⟩
 .have hcl:(fO t).length=t.size*1:=by unfold fO;simp_all
  refine Z.NY z 1 rfl ht hcl (by rw[hsl];exact hl) λs' h2 g' hs' z2 _=>?_;refine aS ?_;have z2:Z h0 h2 (.au C.b (C.cells p s e) jv::.sl s' 1 jT ((l++t.data.toList).map vb) g'::L):=by rw[ag3];exact z2
  refine z2.st 0 λh3 z3=>ag.2 ⟨p,s',g',hp,λe=>?_,z3⟩;exfalso;have:=ah7 List.length e;rw[adn,adT] at this;have h4:t.data.toList.length=t.size:=rfl;omega
theorem Fr.shut (hw:WF h){g}(h0:g≠0):Fr (·=g) h (h.shut g):=by
 have hg:∀j k,(h.shut g).get j=some k->h.get j=some k:=λj k hj=>by
  grind [ai.shut]
 refine⟨⟨λj hj=>?_,hw.used,λj c g' b e hj=>hw.eI j c g' b e (hg _ _ hj),hw.maps⟩,abi _,λj c g' b e hj hx=>?_,λ_ _ _=>rfl,λ_ _=>rfl,λj hj hn=>?_,λ_ _ e _=>e⟩
 .have:=hw.get j hj;simp[ai.shut,this]
 .grind [ai.shut,bB]
 .simp[ai.shut,hn]
theorem Hn:∀l:List UInt8,bytesOf (l.map vb)=some l
 |[]=>rfl
 |b::l=>by
  simp only[adR,bytesOf,Hn l,aa1]
  simp_all
theorem ab4 {n}(B:rf h0 h C e l L):Wp (nK n (some (Hu C.b))) h λr h'=>r=(l.length:Int)/\rf h0 h' C e l L:=by
 have B':=B;obtain⟨p,s,g,hp,hs,z⟩:=B;unfold nK;refine aS ?_;refine z.ld 0 (x:=s) ?_;have hsl:=FJ z;exact ag.2 ⟨by rw[hsl],B'⟩
theorem ab5 {n}(B:rf h0 h C e l L)(hl:l.length<=1073741824):Wp (kM n (some (Hu C.b))) h λr h'=>r=ofBytes l/\Z h0 h' L:=by
 obtain⟨p,s,g,hp,hs,z⟩:=B;unfold kM;refine aS (aS ?_);refine z.ld 0 (x:=s) ?_;have hsl:=FJ z;have o:ue h s 1 jT (l.map vb) g:=z.get 1 rfl;cases l with
 |nil=>
  have e:=hs rfl;subst e;rw[ah];refine⟨none,h,rfl,?_⟩;refine z.ld 0 (x:=qQ) ?_;rw[ah];refine⟨ofBytes [],h,rfl,ag.2 ⟨rfl,z.drop.drop⟩⟩
 |cons b l=>
  have hn:s.len≠0:=by rw[hsl];simp
  obtain⟨b2,base,e1,e2,hg⟩:=o.au hn;rw[ah];refine⟨s.a,h,by rw[e1];unfold D7;simp only;rw[By hn],?_⟩;refine z.ld 0 (x:=s) ?_;have hr:=o.read;rw[ae1] at hr;rw[ah];have hle:=o.le;have hgo:h0.next<g:=by
   have:=(z.own (.sl s 1 jT ((b::l).map vb) g) (IN _ OF)).2;exact this.resolve_left hg
  have hX:∀o∈L,o.eI=g->o.eI=0:=λo ho e=>by
   have h1:=(List.pairwise_cons.1 z.uw).2;have h2:=(List.pairwise_cons.1 h1).1 o ho;exact absurd (h2 e.symm) hg
  refine⟨ofBytes (b::l),h.shut g,?_,ag.2 ⟨rfl,z.drop.drop.step (Fr.shut z.wf hg) (λg' e _=>by rw[e];exact hgo) hX⟩⟩;unfold ZN;rw[e1] at hr⊢;simp only[aa1,hr,e2];rw[By ⟨by omega,by rw[hsl];omega,hg,trivial⟩,Hn]
theorem rf.new (B:rf h0 h C e l L){t cs f}(q:∀b h',rf h0 h' C e l (.au b cs t::L)->Wp (f b) h' Q)(hs:cs.all eS=true:=by rfl):Wp (sh (aF none t cs) f) h Q:=by
 obtain⟨p,s,g,hp,hs',z⟩:=B;refine z.new (λb h' z _=>q b h' ⟨p,s,g,hp,hs',?_⟩) hs;exact Z.lX (pre:=[_,_,_]) z [1,2,0] (by grind)
theorem rf.EC (B:rf h0 h C e l L){t c}{n:Int}{f}(h1:0<=n)(h2:n<=cF)
  (q:∀b h',rf h0 h' C e l (.au b (List.replicate n.toNat c).flatten t::L)->Wp (f ⟨some ⟨b,0,none⟩,n.toNat,n.toNat+1⟩) h' Q)(hs:c.all eS=true:=by rfl):Wp (sh (qM none t c n n) f) h Q:=by
 obtain⟨p,s,g,hp,hs',z⟩:=B;refine z.EC h1 h2 (λb h' z _=>q b h' ⟨p,s,g,hp,hs',?_⟩) hs;exact Z.lX (pre:=[_,_,_]) z [1,2,0] (by grind)
theorem rf.drop {o}(B:rf h0 h C e l (o::L)):rf h0 h C e l L:=by
 obtain⟨p,s,g,hp,hs,z⟩:=B;exact⟨p,s,g,hp,hs,z.sub (.cons₂ _ (.cons₂ _ (.cons _ (.refl _))))⟩
theorem rf.ld (B:rf h0 h C e l L)(i:Nat){b o cs t lf v x f}
  (q:Wp (f x) h Q)(hi:L[i]?=some (.au b cs t):=by rfl)(hv:cs[o]?=some v:=by rfl)(hx:Ae lf v=some x:=by rfl):Wp (sh (aq lf ⟨b,o,none⟩) f) h Q:=by
 obtain⟨p,s,g,hp,hs,z⟩:=B;exact z.ld (i+2) q hi hv hx
theorem rf.iN (B:rf h0 h C e l L)(i:Nat){b cs t ls x f}
  (q:Wp (f x) h Q)(hi:L[i]?=some (.au b cs t):=by rfl)(hx:yL ls cs=some x:=by rfl)(hl:ls.length=cs.length:=by rfl):Wp (sh (aE ls ⟨b,0,none⟩) f) h Q:=by
 obtain⟨p,s,g,hp,hs,z⟩:=B;exact z.iN (i+2) q hi hx hl
theorem rf.st (B:rf h0 h C e l L) i {b o cs vs cs' t f}
  (q:∀h',rf h0 h' C e l (L.set i (.au b cs' t))->Wp (f ()) h' Q)(hi:L[i]?=some (.au b cs t):=by rfl)(hc:aU cs o vs=cs':=by rfl)(ho:o+vs.length<=cs.length:=by first|decide|simp)(hs:vs.all eS=true:=by rfl) :
  Wp (sh (bh ⟨b,o,none⟩ vs) f) h Q:=by
 obtain⟨p,s,g,hp,hs',z⟩:=B;exact z.st (i+2) (λh' z=>q h' ⟨p,s,g,hp,hs',z⟩) hi hc ho hs
theorem rf.gr (B:rf h0 h C e l L){f:Sl->M β}(q:Wp (f C.s) h Q):Wp (sh (aq .sl (((al C.b).plus 0).plus 0)) f) h Q:=by
 obtain⟨p,s,g,hp,hs',z⟩:=B;exact z.ld 0 q
theorem rf.er (B:rf h0 h C e l L){f:Int->M β}(q:Wp (f e) h Q):Wp (sh (aq li ((al C.b).plus 4)) f) h Q:=by
 obtain⟨p,s,g,hp,hs',z⟩:=B;exact z.ld 0 q
theorem rf.set (B:rf h0 h C e l L){e' f}(q:∀h',rf h0 h' C e' l L->Wp (f ()) h' Q):Wp (sh (bh ((al C.b).plus 4) [vi e']) f) h Q:=by
 obtain⟨p,s,g,hp,hs',z⟩:=B;exact z.st 0 λh' z=>q h' ⟨p,s,g,hp,hs',z⟩
end
end Go.Sh
namespace Go.Sh
def Fg (n:Nat):List UInt8:=if n<10 then [UInt8.ofNat (48+n)] else Fg (n/10)++[UInt8.ofNat (48+n%10)]
termination_by n
def Fh (t:ByteArray):List UInt8:=Fg t.size++58::t.data.toList
end Go.Sh
namespace Go.Sh
open Go Go.Ago Go.Proofs
variable {α β:Type}{h h' h0:ai}{L:List bG}{Q:β->ai->Prop}
theorem Zc:∀n:Nat,Lib.decDigits n=Fg n:=by
 intro n
 induction n using Nat.strongRecOn with
 |ind n ih=>
  rw[Lib.decDigits,Fg]
  grind
theorem N6 s:∀n pos ,s.size-pos<=n->Lib.validGoD n (s.data.toList.drop pos)=(tD s (s.size+1) pos).isNone
 |0,pos,hn=>by rw[Lib.validGoD,tD,AT (by omega)];rfl
 |n+1,pos,hn=>by
  have hl:s.data.toList.length=s.size:=rfl;rw[Lib.validGoD];by_cases hp:pos<s.size
  .rw[AT (by simp_all),Lib.decodeL_drop];split
   .rename_i hb;rw[V4 hp hb.1 hb.2];rfl
   .rename_i hb;have hw:=width_pos s pos hp;rw[aih,Jm hp hb];exact N6 s n _ (by omega)
  .rw[By (abZ (by omega)),tD,AT hp];rfl
theorem Zd t:Lib.validD t.data.toList=u8 t:=by
 unfold Lib.validD u8;have:=N6 t t.data.toList.length 0 (by show t.size-0<=t.size;omega)
 rwa [ahx] at this
def H9 (N:List av):ε->Option Int
 |[]=>some 0
 |k::ks=>match gt N k with
  |none=>none
  |some y=>if y.kind=5 then H9 N ks else some 16
def xD (N:List av)(x:av):Option Int:=
 if x.kind=6 then some (if u8 x.text then 11 else 0) else
 if x.kind=10 then (if x.ord then some 10 else H9 N x.keys) else some 10
def Ia (N:List av)(x:av):Option Int:=if x.kind=2 then some 0 else if x.kind=5 then some 0 else if x.kind=9 then some 0 else xD N x
def KT (N:List av)(ks:ε)(ts:List ζ):Prop:=ks.length=ts.length/\∀(i:Nat) t,ts[i]?=some t->∃k y,ks[i]?=some k/\gt N k=some y/\y.text=t
def U4 (ts:List ζ)(u v:Int):Int:=match gt ts u,gt ts v with
 |some a,some b=>Lib.compareBytes a.data.toList b.data.toList
 |_,_=>0
def SOr (ts:List ζ)(r:ε):Prop:=
 (∀p∈r,0<=p/\p<(ts.length:Int))/\r.length=ts.length /\
 ∀(c:Cx) (P:List bG) (h:ai) (n:Nat),c.m=ts.length->c.OK (U4 ts)->c.k+(ts.length+700)<=n->c.St P h (iota ts.length) ->
  Wp ((cl n).cp (arr c.b ts.length) c.x) h λ_ h'=>c.St P h' r
def Seq (R:Int->Int->List UInt8->Int->Prop):ε->Int->List UInt8->Int->Prop
 |[],c,bs,c'=>bs=[]/\c'=c
 |a::r,c,bs,c'=>∃b1 c1 b2,R a c b1 c1/\Seq R r c1 b2 c'/\bs=b1++b2
def N7 (ts:List ζ)(is:ε)(R:Int->Int->List UInt8->Int->Prop):ε->Int->List UInt8->Int->Prop
 |[],c,bs,c'=>bs=[]/\c'=c
 |i::r,c,bs,c'=>∃t a b1 c1 b2,gt ts i=some t/\gt is i=some a/\R a c b1 c1/\N7 ts is R r c1 b2 c'/\bs=Fh t++(b1++b2)
def PR (N:List av):Nat->Int->Int->List UInt8->Int->Prop
 |0=>λ_ _ _ _=>False
 |d+1=>λa c bs c'=>∃x,gt N a=some x/\((c≠0/\bs=[]/\c'=c)\/(c=0/\∃w,Ia N x=some w/\((w≠0/\bs=[]/\c'=w)\/(w=0/\(
   (x.kind=2/\bs=105::(x.text.data.toList++[101])/\c'=0) \/
   ((x.kind=5\/x.kind=6)/\bs=Fh x.text/\c'=0) \/
   (x.kind=9/\∃b1,Seq (PR N d) x.items 0 b1 c'/\bs=108::(b1++[101])) \/
   (x.kind=10/\∃ts r b1,KT N x.keys ts/\x.items.length=ts.length/\SOr ts r/\N7 ts x.items (PR N d) r 0 b1 c'/\bs=100::(b1++[101])))))))
section
variable {s:Sl}{N:List av}{C:PB}{e:Int}{l:List UInt8}
theorem Ze (B:rf h0 h C e l L)(G:oI h0 C.s N){ks kl}(ik:IL h0 ks kl)(hk:kl.length<1073741824){w} :
  ∀n i ,kl.length-i<n->i<=kl.length->H9 N (kl.drop i)=some w->Wp (dP n (some (al C.b)) ks (kl.length:Int) (i:Int)) h λr h'=>(match r with | .inl _=>w=0 | .inr y=>y=w)/\h'=h:=by
 intro n
 induction n with
 |zero=>intro i h1;omega
 |succ n ih=>
  intro i h1 h2 hw;rw[sf];unfold jD;obtain⟨p,t,g,hp,hs,z⟩:=id B;by_cases hi:i<kl.length
  .rw[By (by simp;omega)];obtain⟨k,hk1⟩:=eY hi;rw[drop_cons hk1,H9] at hw;cases hy:gt N k with
   |none=>rw[hy] at hw;cases hw
   |some y=>
    rw[hy] at hw;simp at hw;obtain⟨g1,g2⟩:=aC hy;refine (ik.fr z.fr).ix (by omega) (by simpa using hk1) λa g cl=>cl.rD rfl rfl ?_;refine aS ?_;refine B.gr ?_;refine G.at z g1 g2 λa ks is nd _ _=>nd.Nl ?_;by_cases h5:y.kind=5
    .rw[By h5] at hw;rw[AT (by simpa using h5),vk h2 hk];exact ih (i+1) (by omega) (by omega) hw
    .rw[AT h5] at hw;cases hw;rw[By (by simpa using h5),ag];exact⟨rfl,rfl⟩
  .rw[AT (by simp;omega),ag];rw[abZ (by omega),H9] at hw;cases hw;exact⟨rfl,rfl⟩
theorem Zf (B:rf h0 h C e l L)(G:oI h0 C.s N){x ks is}(ik:IL h0 ks x.keys)(hk:x.keys.length<1073741824)(ht:x.text.size<=65536){w}(hw:Ia N x=some w){n}(hn:x.keys.length<n) :
  Wp (jr n (some (al C.b)) (x.kind,x.text,x.ord,ks,is)) h λr h'=>r=w/\rf h0 h' C e l L:=by
 unfold jr;unfold Ia at hw;refine B.new λb h1 B=>?_;refine B.ld 0 (x:=x.kind) ?_;by_cases h2:x.kind=2
 .rw[By h2] at hw;cases hw;rw[By (by simpa using h2),ag];exact⟨rfl,B.drop⟩
 rw[AT h2] at hw;rw[AT (by simpa using h2)];by_cases h5:x.kind=5
 .rw[By h5] at hw;cases hw;rw[By (by simpa using h5),ag];exact⟨rfl,B.drop⟩
 rw[AT h5] at hw;rw[AT (by simpa using h5)];by_cases h9:x.kind=9
 .rw[By h9] at hw;cases hw;rw[By (by simpa using h9),ag];exact⟨rfl,B.drop⟩
 rw[AT h9] at hw;rw[AT (by simpa using h9)];unfold kP;unfold xD at hw;by_cases h6:x.kind=6
 .rw[By h6] at hw;rw[By (by simpa using h6)];refine B.ld 0 (x:=x.text) ?_;unfold eW;rw[By (by omega),ah,ag,Zd];cases hu:u8 x.text with
  |true=>rw[hu] at hw;cases hw;rw[By rfl,ag];exact⟨rfl,B.drop⟩
  |false=>rw[hu] at hw;cases hw;rw[AT (by simp),ag];exact⟨rfl,B.drop⟩
 rw[AT h6] at hw;rw[AT (by simpa using h6)];by_cases h10:x.kind=10
 .rw[By h10] at hw;rw[By (by simpa using h10)];refine B.ld 0 (x:=x.ord) ?_;cases ho:x.ord with
  |true=>rw[ho] at hw;cases hw;rw[By rfl,ag];exact⟨rfl,B.drop⟩
  |false=>
   rw[ho] at hw;rw[AT (by simp)];refine B.ld 0 (x:=ks) ?_;rw[ik.len,ah];refine (Ze B G ik hk n 0 (by omega) (by omega) (by simpa using hw)).mono λr h2 hr=>?_;obtain⟨hr,rfl⟩:=hr;cases r with
   |inl _=>exact ag.2 ⟨hr.symm,B.drop⟩
   |inr y=>exact ag.2 ⟨hr,B.drop⟩
 .rw[AT h10] at hw;cases hw;rw[AT (by simpa using h10),ag];exact⟨rfl,B.drop⟩
theorem N8 (B:rf h0 h C e l L){t}(ht:t.size<=65536){n}(hl:l.length+(Fh t).length<=cF) :
  Wp (gW n (some (al C.b)) t) h λ_ h'=>rf h0 h' C e (l++Fh t) L:=by
 unfold gW;have e1:Lib.itoa (t.size:Int)=Fg t.size:=by unfold Lib.itoa;rw[AT (by omega),aa1,Zc]
 have e2:t.data.toList.length=t.size:=rfl;unfold Fh at hl;rw[adn,acp,e2] at hl;refine aS ?_;unfold strconv_Itoa;rw[By (by omega),e1,ah,ag,ah];refine (LL B (t:=⟨(Fg t.size).toArray⟩) (by show l.length+(Fg t.size).toArray.size<=cF;rw[List.size_toArray];omega)).mono λ_ h1 B=>?_;have B:rf h0 h1 C e (l++Fg t.size) L:=B;refine aS ?_;rw[ah];refine (Ab (b:=58) rfl B (by rw[adn];omega)).mono λ_ h2 B=>?_;refine aS ?_;rw[ah];refine (LL B (t:=t) (by grind)).mono λ_ h3 B=>?_;rw[ag];unfold Fh;simpa using B
end
end Go.Sh
namespace Go.Sh
open Go Go.Ago Go.Proofs
variable {α β:Type}{h h' h0:ai}{L:List bG}{Q:β->ai->Prop}
theorem KT.at {N ks ts}(k:KT N ks ts){p t}(ht:gt ts p=some t):∃q y,0<=p/\ks[p.toNat]?=some q/\gt N q=some y/\y.text=t:=by
 obtain⟨g1,g2⟩:=aC ht;obtain⟨q,y,h1,h2,h3⟩:=k.2 _ _ g2
 grind
theorem Ac {γ}{ts:List γ}{p}(h1:0<=p)(h2:p<(ts.length:Int)):∃t,gt ts p=some t:=by
 obtain⟨t,ht⟩:=eY (l:=ts) (i:=p.toNat) (by omega);exact⟨t,by unfold gt;rw[By h1];exact ht⟩
section
variable {s:Sl}{N:List av}{C:PB}{e:Int}{l:List UInt8}{x:av}{ks is:Sl}{x0 x6:Nat}{ts:List ζ}
abbrev NB (C:PB)(x:av)(ks is:Sl)(x0 x6:Nat):List bG:=[.au x6 [vi x.kind,.string x.text,.bool x.ord,aI ks,aI is] aA,.au x0 [.pointer (some (al C.b))] rq]
abbrev Zg (x0 x6:Nat):ξ:=Value.func (Fn.func kI) #[] #[Value.pointer (some (al x0)),Value.pointer (some (al x6))]
theorem ab6 (B:rf h0 h C e l (NB C x ks is x0 x6++L))(G:oI h0 C.s N)(ik:IL h0 ks x.keys)(k:KT N x.keys ts){u v}(hu:0<=u/\u<(ts.length:Int))(hv:0<=v/\v<(ts.length:Int)){n} :
  Wp (Yv n (Zg x0 x6) u v) h λr h'=>r=U4 ts u v/\h'=h:=by
 obtain⟨p,t,g,hp,hs,z⟩:=id B;obtain⟨t1,h1⟩:=Ac hu.1 hu.2;obtain⟨t2,h2⟩:=Ac hv.1 hv.2;obtain⟨q1,y1,_,a1,a2,rfl⟩:=k.at h1;obtain⟨q2,y2,_,b1,b2,rfl⟩:=k.at h2;obtain⟨a3,a4⟩:=aC a2;obtain⟨b3,b4⟩:=aC b2;have hc:U4 ts u v=Lib.compareBytes y1.text.data.toList y2.text.data.toList:=by unfold U4;rw[h1,h2]
 rw[hc];unfold Yv ax;rw[By (by rfl),ah];refine jn (c:=(al x0,al x6)) rfl ?_;unfold aH;refine B.ld 1 (aS (B.gr ?_));refine B.ld 0 (x:=ks) ?_;refine (ik.fr z.fr).ix hu.1 a1 λa g cl=>cl.rD rfl rfl ?_;refine G.at z a3 a4 λa _ _ nd _ _=>nd.LR ?_;refine B.ld 1 (aS (B.gr ?_));refine B.ld 0 (x:=ks) ?_;refine (ik.fr z.fr).ix hv.1 b1 λa g cl=>cl.rD rfl rfl ?_;refine G.at z b3 b4 λa _ _ nd _ _=>nd.LR ?_;unfold strings_Compare j6 cT;simp only[ah,ag];exact⟨Lib.cmp_eq _ _,trivial⟩
theorem ab7 {m b}(hm:m<1073741824) a0 a1 :
  ∀n i h ,m-i<n->i<=m->rf h0 h C e l (.au b (((iota m).take i++List.replicate (m-i) 0).map vi) an::L) ->
   Wp (cX n a0 a1 (arr b m) (m:Int) (i:Int)) h λ_ h'=>rf h0 h' C e l (.au b ((iota m).map vi) an::L):=by
 intro n
 induction n with
 |zero=>intro i h h1;omega
 |succ n ih=>
  intro i h h1 h2 B;rw[s9];unfold kC;have hl:=kH m;by_cases hi:i<m
  .rw[By (by simp;omega)];refine A8 (by omega) (by omega) ?_;rw[aa1];refine B.st 0 (λh3 B=>?_) rfl (xZ (by grind)) (by simp;omega) rfl;have hf:=fill (pR hi);rw[hl] at hf;rw[hf] at B;rw[vk h2 (by omega)];exact ih (i+1) h3 (by omega) (by omega) B
  .rw[AT (by simp;omega),ag]
   grind
def NW (h0:ai)(C:PB)(N:List av)(M d:Nat):Prop:=∀(n:Nat) (a c:Int) (bs:List UInt8) (c':Int) (l:List UInt8) (h:ai) (L:List bG),
 PR N d a c bs c'->d*(M+10)+2*M+1000<=n->l.length+bs.length<=cF->rf h0 h C c l L->Wp (dj n (some (al C.b)) a) h λ_ h'=>rf h0 h' C c' (l++bs) L
theorem ab8 {M d}(hM:M<1073741824)(hW:NW h0 C N M d)(ii:IL h0 is x.items)(hi:x.items.length<=M) :
  ∀n i c bs c' l h ,d*(M+10)+2*M+1000+(x.items.length-i)<n->i<=x.items.length->Seq (PR N d) (x.items.drop i) c bs c'->l.length+bs.length<=cF ->
   rf h0 h C c l (NB C x ks is x0 x6++L)->Wp (cY n (al x0) is (x.items.length:Int) (i:Int)) h λ_ h'=>rf h0 h' C c' (l++bs) (NB C x ks is x0 x6++L):=by
 intro n
 induction n with
 |zero=>intro i c bs c' l h h1;omega
 |succ n ih=>
  intro i c bs c' l h h1 h2 hs hl B;rw[ta];unfold kD;obtain⟨p,t,g,hp,hs',z⟩:=id B;by_cases hlt:i<x.items.length
  .rw[By (by simp;omega)];obtain⟨a,ha⟩:=eY hlt;rw[drop_cons ha,Seq] at hs;obtain⟨b1,c1,b2,r1,r2,rfl⟩:=hs;rw[adn] at hl;refine (ii.fr z.fr).ix (by omega) (by simpa using ha) λ_ _ cl=>cl.rD (l:=li) rfl rfl ?_;refine B.ld 1 ?_;rw[ah];refine (hW n a c b1 c1 l h _ r1 (by omega) (by omega) B).mono λ_ h3 B=>?_;rw[vk h2 (by omega)];have:=ih (i+1) c1 b2 c' (l++b1) h3 (by omega) (by omega) r2 (by grind) B
   rwa [agm] at this
  .rw[AT (by simp;omega),ag]
   grind [List.drop_eq_nil_of_le,Seq]
theorem agi {M d}(hM:M<1073741824)(hW:NW h0 C N M d)(G:oI h0 C.s N)(hT:∀x∈N,x.text.size<=65536)(ik:IL h0 ks x.keys)(ii:IL h0 is x.items)(k:KT N x.keys ts){r:ε}{b}(hr:r.length<=M) :
  ∀n i c bs c' l h ,d*(M+10)+2*M+1000+(r.length-i)<n->i<=r.length->N7 ts x.items (PR N d) (r.drop i) c bs c'->l.length+bs.length<=cF ->
   rf h0 h C c l (NB C x ks is x0 x6++(.au b (r.map vi) an::L))->Wp (cW n (al x0) (al x6) (arr b r.length) (r.length:Int) (i:Int)) h λ_ h'=>rf h0 h' C c' (l++bs) (NB C x ks is x0 x6++(.au b (r.map vi) an::L)):=by
 intro n
 induction n with
 |zero=>intro i c bs c' l h h1;omega
 |succ n ih=>
  intro i c bs c' l h h1 h2 hs hl B;rw[s7];unfold kB;obtain⟨p,t,g,hp,hs',z⟩:=id B;by_cases hlt:i<r.length
  .rw[By (by simp;omega)];obtain⟨j,hj⟩:=eY hlt;rw[drop_cons hj,N7] at hs;obtain⟨t,a,b1,c1,b2,q1,q2,r1,r2,rfl⟩:=hs;obtain⟨q,y,j0,a1,a2,rfl⟩:=k.at q1;obtain⟨a3,a4⟩:=aC a2;obtain⟨i1,i2⟩:=aC q2;rw[adn,adn] at hl;refine A8 (by omega) (by omega) ?_;refine B.ld 2 ?_ rfl (by rw[aa1,abE,hj];rfl) rfl;refine B.ld 1 ?_;refine B.ld 1 (aS (B.gr ?_));refine B.ld 0 (x:=ks) ?_;refine (ik.fr z.fr).ix j0 a1 λ_ _ cl=>cl.rD (l:=li) rfl rfl ?_;refine G.at z a3 a4 λ_ _ _ nd _ _=>nd.LR ?_;rw[ah];refine (N8 B (hT y (BY a4)) (by omega)).mono λ_ h3 B=>?_;obtain⟨p,t,g,hp,hs',z⟩:=id B;refine B.ld 1 ?_;refine B.ld 0 (x:=is) ?_;refine (ii.fr z.fr).ix i1 i2 λ_ _ cl=>cl.rD (l:=li) rfl rfl ?_;rw[ah];refine (hW n a c b1 c1 _ h3 _ r1 (by omega) (by grind) B).mono λ_ h4 B=>?_;rw[vk h2 (by omega)];have:=ih (i+1) c1 b2 c' _ h4 (by omega) (by omega) r2 (by grind) B;rw[agm,agm] at this;exact this
  .rw[AT (by simp;omega),ag]
   grind [List.drop_eq_nil_of_le,N7]
theorem rf.node (B:rf h0 h C e l L){f:Nat->M β}(q:∀b h',rf h0 h' C e l (.au b [vi x.kind,.string x.text,.bool x.ord,aI ks,aI is] aA::L)->Wp (f b) h' Q) :
  Wp (sh (aF none aA [vi 0,Value.string (ofBytes []),Value.bool false,aO,aO]) λb=>sh (bh (al b) [vi x.kind,Value.string x.text,Value.bool x.ord,aI ks,aI is]) λ_=>f b) h Q:=
 B.new λb h1 B=>B.st 0 (o:=0) (cs':=[vi x.kind,.string x.text,.bool x.ord,aI ks,aI is]) λh2 B=>q b h2 B
theorem rf.perm {L'}(B:rf h0 h C e l L)(hp:L.Perm L'):rf h0 h C e l L':=by
 obtain⟨p,t,g,h1,h2,z⟩:=B;exact⟨p,t,g,h1,h2,z.perm (hp.append_left _)⟩
set_option maxRecDepth 20000 in
theorem ab9 {d M n m:Nat}(h8:m<=M)(hn:d*(M+10)+3*M+1001<=n):0+(m+700)<=n:=by omega
theorem RU {M d}(hM:M<1073741824)(hW:NW h0 C N M d)(G:oI h0 C.s N)(hB:Bd N M)(hT:∀x∈N,x.text.size<=65536){a}(hx:gt N a=some x)(ik:IL h0 ks x.keys)(ii:IL h0 is x.items){n}(hn:d*(M+10)+3*M+1001<=n)
  {bs c c'}(hl:l.length+bs.length<=cF)
  (hp:(c≠0/\bs=[]/\c'=c)\/(c=0/\((x.kind=2/\bs=105::(x.text.data.toList++[101])/\c'=0) \/
   ((x.kind=5\/x.kind=6)/\bs=Fh x.text/\c'=0) \/
   (x.kind=9/\∃b1,Seq (PR N d) x.items 0 b1 c'/\bs=108::(b1++[101])) \/
   (x.kind=10/\∃ts r b1,KT N x.keys ts/\x.items.length=ts.length/\SOr ts r/\N7 ts x.items (PR N d) r 0 b1 c'/\bs=100::(b1++[101])))))
  (B:rf h0 h C c l (NB C x ks is x0 x6++L)):Wp (eV (ay.at n) n (al x0) (al x6)) h λ_ h'=>rf h0 h' C c' (l++bs) L:=by
 have hxm:=BY (aC hx).2;have hbd:=hB.2.2 x hxm;have htx:=hT x hxm;have htl:x.text.data.toList.length=x.text.size:=rfl;have fin:∀{h':ai} {c':Int} {l:List UInt8},rf h0 h' C c' l (NB C x ks is x0 x6++L)->rf h0 h' C c' l L:=λB=>B.drop.drop;unfold eV;refine B.ld 1 (aS (B.er ?_));rcases hp with⟨h1,rfl,rfl⟩|⟨rfl,hp⟩
 .rw[By (by simpa using h1),ag,agA];exact fin B
 rw[AT (by simp)];refine B.ld 0 ?_;rcases hp with⟨h2,rfl,rfl⟩|⟨h5,rfl,rfl⟩|⟨h9,b1,hs,rfl⟩|⟨h10,ts,r,b1,k,hkl,so,hs,rfl⟩
 .simp only[acp,adn,htl,adT] at hl;rw[By (by simpa using h2)];refine B.ld 1 (aS ?_);refine B.ld 0 ?_;have z1:(ofBytes [105]).size=1:=rfl;have z2:(ofBytes [101]).size=1:=rfl;rw[ah,Cj];refine⟨by grind,?_⟩;rw[ah,Cj];refine⟨by grind,?_⟩;rw[ah];refine (LL B (by grind)).mono λ_ h1 B=>?_;rw[ag]
  grind [ofBytes,ByteArray.data_append,Array.toList_append]
 .have n2:x.kind≠2:=by omega
  have n9:x.kind≠9:=by omega
  have n10:x.kind≠10:=by omega
  rw[AT (by simpa using n2),AT (by simpa using n9),AT (by simpa using n10)];refine B.ld 1 ?_;refine B.ld 0 ?_;rw[ah];refine (N8 B htx hl).mono λ_ h1 B=>?_;rw[ag];exact fin B
 .have n2:x.kind≠2:=by omega
  simp only[acp,adn,adT] at hl;rw[AT (by simpa using n2),By (by simpa using h9)];refine B.ld 1 (aS ?_);rw[ah];refine (Ab (b:=108) rfl B (by omega)).mono λ_ h1 B=>?_;refine B.ld 0 (x:=is) ?_;rw[ii.len,ah];refine (ab8 hM hW ii hbd.2 n 0 0 b1 c' _ h1 (by omega) (by omega) (by simpa using hs) (by grind) B).mono λ_ h2 B=>?_;refine B.ld 1 (aS ?_);rw[ah];refine (Ab (b:=101) rfl B (by grind)).mono λ_ h3 B=>?_;rw[ag]
  grind
 .have n2:x.kind≠2:=by omega
  have n9:x.kind≠9:=by omega
  have hkk:=k.1;have h8:ts.length<=M:=by rw[<-hkk];exact hbd.1
  have hn7:=ab9 h8 hn;simp only[acp,adn,adT] at hl;rw[AT (by simpa using n2),AT (by simpa using n9),By (by simpa using h10)];refine B.ld 1 (aS ?_);rw[ah];refine (Ab (b:=100) rfl B (by omega)).mono λ_ h1 B=>?_;refine B.ld 0 (x:=ks) ?_;rw[ik.len,hkk];refine B.EC (by omega) (by unfold cF;omega) λb h2 B=>?_;rw[aa1] at B⊢;rw[oP] at B;rw[ah];refine (ab7 (m:=ts.length) (by omega) (al x0) (al x6) n 0 h2 (by omega) (by omega) (by simpa using B)).mono λ_ h3 B=>?_;rw[ah];obtain⟨p,t,g,hp,hs',z⟩:=id B;have z:Z h0 h3 (.au b ((iota ts.length).map vi) an::([]++(C.own p t 0 (l++[100]) g++(NB C x ks is x0 x6++L)))):=Z.lX (pre:=[_,_,_]) z [2,0,1] (by grind);have hst:Cx.St ⟨h0,b,ts.length,Zg x0 x6,0,λX=>X=C.own p t 0 (l++[100]) g++(NB C x ks is x0 x6++L)⟩ [] h3 (iota ts.length):=⟨C.own p t 0 (l++[100]) g++(NB C x ks is x0 x6++L),rfl,z⟩;refine (so.2.2 ⟨h0,b,ts.length,Zg x0 x6,0,λX=>X=C.own p t 0 (l++[100]) g++(NB C x ks is x0 x6++L)⟩ [] h3 n rfl ?_ hn7 hst).mono λ_ h4 hx=>?_
  .intro n' u v h R X _ hu1 hu2 hv1 hv2 hX z;subst hX;have z':=z.perm agx;rw[agm] at z';have B':rf h0 h C 0 (l++[100]) (NB C x ks is x0 x6++(L++R)):=⟨p,t,g,hp,hs',by simpa using z'⟩;refine (ab6 B' G ik k ⟨hu1,hu2⟩ ⟨hv1,hv2⟩).mono λr h' hr=>?_
   grind
  .obtain⟨_,rfl,z⟩:=hx;have B:rf h0 h4 C 0 (l++[100]) (NB C x ks is x0 x6++(.au b (r.map vi) an::L)):=⟨p,t,g,hp,hs',Z.lX (pre:=[_,_,_,_,_]) z [1,2,3,4,0] (by simp only[acp,adT];decide)⟩;have hrl:=so.2.1;rw[ah,<-hrl];refine (agi hM hW G hT ik ii k (by omega) n 0 0 b1 c' _ h4 (by omega) (by omega) (by simpa using hs) (by grind) B).mono λ_ h5 B=>?_;refine B.ld 1 (aS ?_);rw[ah];refine (Ab (b:=101) rfl B (by grind)).mono λ_ h6 B=>?_;rw[ag];have B:=B.drop.drop.drop;simpa using B
theorem aca {M}(hM:M<1073741824)(G:oI h0 C.s N)(hB:Bd N M)(hT:∀x∈N,x.text.size<=65536):∀d,NW h0 C N M d:=by
 intro d
 induction d with
 |zero=>intro n a c bs c' l h L hp;exact hp.elim
 |succ d ih=>
  intro n a c bs c' l h L hp hn hl B;have hmul:(d+1)*(M+10)=d*(M+10)+(M+10):=Nat.succ_mul _ _;obtain⟨n,rfl⟩:∃m,n=m+1:=⟨n-1,by omega⟩;obtain⟨x,hx,hp⟩:=hp;obtain⟨g1,g2⟩:=aC hx;have hxm:=BY g2;have hbd:=hB.2.2 x hxm;rw[uM];unfold lZ;refine B.new λx0 h1 B=>?_;refine B.ld 0 (aS (B.gr ?_));obtain⟨p,t,g,h2,h3,z⟩:=id B;refine G.at z g1 g2 λaa ks is nd ik ii=>nd.iN ?_;refine B.node λx6 h2 B=>?_;have B:rf h0 h2 C c l (NB C x ks is x0 x6++L):=B;refine B.ld 1 (aS (B.er ?_));rcases hp with⟨hc,rfl,rfl⟩|⟨rfl,w,hw,hp⟩
  .rw[AT (by simpa using hc)];exact RU hM ih G hB hT hx ik ii (by omega) hl (.inl ⟨hc,rfl,rfl⟩) B
  .rw[By (by rfl)];refine B.ld 1 ?_;refine B.ld 1 ?_;refine B.iN 0 (ls:=[li,.str,.bool,.sl,.sl]) (x:=(x.kind,x.text,x.ord,ks,is)) ?_;refine wh (λa ha=>?_) (Zf B G ik (by omega) (hT x hxm) hw (by omega)) λr h3 hr=>?_
   .simp at ha;subst ha;obtain⟨p,t,g,h2,h3,z⟩:=id B;refine⟨_,_,z.get 3 rfl,λr1 h3 hr1=>?_⟩;obtain⟨_,p,t,g,h2,h3,z⟩:=hr1;exact z.get 3 rfl
   .obtain⟨rfl,B⟩:=hr;refine aS (B.set λh4 B=>?_);refine RU hM ih G hB hT hx ik ii (by omega) hl ?_ B
    simp_all
end
end Go.Sh
namespace Go.Sh
open Go Go.Ago Go.Proofs
variable {α β:Type}{h h' h0:ai}{L:List bG}{Q:β->ai->Prop}{s:Sl}{root:Int}{N:List av}
theorem IM:∀a b c ,oz (a++b) c=(oz a c).bind (oz b)
 |[],b,c=>rfl
 |x::a,b,c=>by
  rw[adS,oz,oz];cases bump c x with
  |none=>rfl
  |some c1=>exact IM a b c1
theorem agj {b cap e sl xs}(il:IL h0 sl xs){B}(hB:B<1073741824)(hl:xs.length<=B) a1 a2 a3 :
  ∀n i c r h L ,xs.length-i<n->i<=xs.length->oz (xs.drop i) c=some r->Z h0 h (.au b (c.map vi) e::L) ->
   Wp (mf n ⟨some ⟨b,0,none⟩,c.length,cap⟩ a1 a2 a3 sl (sl.len:Int) (i:Int)) h λ_ h'=>Z h0 h' (.au b (r.map vi) e::L):=by
 intro n
 induction n with
 |zero=>intro i c r h L h1;omega
 |succ n ih=>
  intro i c r h L h1 h2 hb z;rw[zF];unfold r9;rw[il.len];by_cases hi:i<xs.length
  .rw[By (by simp;omega)];obtain⟨x,hx⟩:=eY hi;rw[drop_cons hx,oz] at hb;cases hb1:bump c x with
   |none=>rw[hb1] at hb;cases hb
   |some c1=>
    rw[hb1] at hb;refine (il.fr z.fr).ix (by omega) (by simpa using hx) λa g cl=>cl.rD rfl rfl ?_;refine CB (i:=0) z rfl hb1 rfl λh2 z=>?_;have:=ih (i+1) c1 r h2 L (by omega) (by omega) hb z;rw[vk (aid hi) (by omega)];rw[il.len,xA hb1] at this;exact this
  .rw[AT (by simp;omega),ag];have:xs.drop i=[]:=abZ (by omega);rw[this] at hb;cases hb;exact z
theorem agk (G:oI h0 s N){B}(hB:Bd N B){b cap e} :
  ∀n i c r h L ,N.length-i+B+5<n->i<=N.length->oz ((N.drop i).flatMap av.items) c=some r->Z h0 h (.au b (c.map vi) e::L) ->
   Wp (mh n ⟨some ⟨b,0,none⟩,c.length,cap⟩ s (s.len:Int) (i:Int)) h λ_ h'=>Z h0 h' (.au b (r.map vi) e::L):=by
 intro n
 induction n with
 |zero=>intro i c r h L h1;omega
 |succ n ih=>
  intro i c r h L h1 h2 hb z;rw[zG];unfold sd;rw[G.len];by_cases hi:i<N.length
  .rw[By (by simp;omega)];obtain⟨x,hx⟩:=eY hi;rw[drop_cons hx,adX,IM] at hb;have hbd:=hB.2.2 x (BY hx);cases hb2:oz x.items c with
   |none=>rw[hb2] at hb;cases hb
   |some c2=>
    rw[hb2] at hb;simp at hb;refine G.at z (by omega) (by simpa using hx) λa ks is nd ik ii=>nd.iN ?_;refine z.node λx2 h2' z=>?_;refine z.ld 0 ?_;have z:=z.perm (List.Perm.swap _ _ _);rw[ah];refine (agj ii hB.2.1 hbd.2 _ _ _ n 0 c c2 _ _ (by omega) (by omega) (by simpa using hb2) z).mono λ_ h4 z=>?_;have z:=(z.perm (List.Perm.swap _ _ _)).drop;have:=ih (i+1) c2 r h4 L (by omega) (by omega) hb z;rw[vk (aid hi) (by have:=hB.1;have:=hB.2.1;omega)];rw[G.len,tV hb2] at this;exact this
  .rw[AT (by simp;omega),ag];have:N.drop i=[]:=abZ (by omega);rw[this] at hb;cases hb;exact z
def acb (N:List av)(root:Int):Option ε:=oz (root::N.flatMap av.items) (List.replicate N.length 0)
theorem Qh (z:Z h0 h L)(G:oI h0 s N){B}(hB:Bd N B){n}(hn:2*B+6<n){r}(hr:acb N root=some r) :
  Wp (u9 n (s,root)) h λx h'=>∃b:Nat,x=arr b N.length/\r.length=N.length/\Z h0 h' (.au b (r.map vi) an::L):=by
 unfold u9;unfold acb at hr;rw[oz] at hr;cases h1:bump (List.replicate N.length 0) root with
 |none=>rw[h1] at hr;cases hr
 |some c1=>
  rw[h1] at hr;simp at hr;refine z.new λx0 h1' z f1=>?_;refine z.ld 0 ?_;rw[G.len];refine z.EC (by omega) (by have:=hB.1;have:=hB.2.1;unfold cF;omega) λb h2 z f2=>?_;rw[aa1] at z⊢;rw[oP] at z;refine z.ld 1 ?_;refine CB (i:=0) z rfl h1 (by simp) λh3 z=>?_;refine z.ld 1 ?_;rw[ah];have hl:=xA h1;rw[adV] at hl;have:=agk G hB (cap:=N.length+1) n 0 c1 r h3 (.au x0 [aI s,vi root] aj::L) (by have:=hB.1;omega) (by omega) (by simpa using hr) z;rw[hl] at this;refine this.mono λ_ h4 z=>?_;rw[ag];exact⟨b,rfl,by rw[tV hr,hl],(z.perm (List.Perm.swap _ _ _)).drop⟩
theorem agl {b m:Nat}{r}(hm:r.length=m){so}{os:ε}{g}(hr:∀x∈os,0<=x/\x<(m:Int))(hb:os.length<1000000) :
  ∀n i a1 ls g1 h L ,os.length-i<n->i<=os.length->ls.length<=i->Z h0 h (.sl a1 1 an (ls.map vi) g1::.au b (r.map vi) an::.sl so 1 an (os.map vi) g::L) ->
   Wp (mC n (arr b m) a1 so (os.length:Int) (i:Int)) h λy h'=>∃(l2:ε) (g2:Nat),y.len=l2.length/\(l2=[]↔ls=[]/\∀j q v ,i<=j->os[j]?=some q->gt r q=some v->v<=1)/\Z h0 h' (.sl y 1 an (l2.map vi) g2::.au b (r.map vi) an::.sl so 1 an (os.map vi) g::L):=by
 intro n
 induction n with
 |zero=>intro i a1 ls g1 h L h1;omega
 |succ n ih=>
  intro i a1 ls g1 h L h1 h2 h3 z;have hal:a1.len=ls.length:=by
   have o:ue h a1 1 an (ls.map vi) g1:=z.get 0 rfl;have:=o.1;simp at this;omega
  rw[zT];unfold sK;by_cases hi:i<os.length
  .rw[By (by simp;omega)];obtain⟨q,hq⟩:=eY hi;have hq2:=hr q (BY hq);obtain⟨v,hv⟩:=eY (l:=r) (i:=q.toNat) (by omega);have hgv:gt r q=some v:=by unfold gt;grind
   have os1:ue h so 1 an (os.map vi) g:=z.get 2 rfl;refine (ue.Dm os1).VZ (by omega) (by simpa using hq) λa cl=>cl.rD rfl rfl ?_;refine A8 hq2.1 (by omega) ?_;refine z.ld 1 ?_ rfl (by rw[abE,hv];rfl) rfl;rw[vk h2 (by omega)];by_cases hv1:1<v
   .rw[By (by simpa using hv1)];refine z.NY 0 (new:=[vi q]) rfl (by decide) rfl (by unfold cF;omega) λs' h4 g' hs' z _=>?_;have z:Z h0 h4 (.sl s' 1 an ((ls++[q]).map vi) g'::.au b (r.map vi) an::.sl so 1 an (os.map vi) g::L):=(by grind);refine (ih (i+1) s' (ls++[q]) g' h4 L (by omega) (by omega) (by grind) z).mono λy h5 hy=>?_
    grind
   .rw[AT (by simpa using hv1)];refine (ih (i+1) a1 ls g1 h L (by omega) (by omega) (by omega) z).mono λy h5 hy=>?_
    grind
  .rw[AT (by simp;omega),ag]
   grind
def Ho (N:List av)(root:Int):Prop:=(root::N.flatMap av.items).Nodup
theorem kS.way {u w}(r:kS N u w):oB N u w\/KN N w:=by
 induction r with
 |refl=>exact .inl .refl
 |step _ e ih=>
  rcases ih with ih|ih
  .obtain⟨x,hx,hk|hi⟩:=e
   .exact .inr (.key (az hx) hk)
   .exact .inl (ih.step ⟨x,hx,hi⟩)
  .exact .inr (ih.step e)
theorem Zh (d:Vd N root)(fw:lR N):∃r,acb N root=some r/\∀v,IR N.length v->gt r v=some (((root::N.flatMap av.items).count v:Nat):Int):=by
 have hlen:(root::N.flatMap av.items).length<4611686018427387904:=by
  have h1:(N.flatMap av.items).length<=(N.flatMap refs).length:=by
   have:∀X:List av,(X.flatMap av.items).length<=(X.flatMap refs).length:=λX=>by
    induction X with
    |nil=>exact abi _
    |cons x X ih=>grind [List.length_append,refs]
   exact this N
  have h2:=Rx fw.bd.2.2;have h3:=aev (2*80) fw.len
  grind
 have hin:∀v∈root::N.flatMap av.items,IR N.length v:=λv hv=>by
  rcases List.mem_cons.1 hv with rfl|hv
  .exact d.rt
  .obtain⟨x,hx,hv⟩:=List.mem_flatMap.1 hv;exact (d.ix x hx).2 v hv
 have h0:List.replicate N.length (0:Int)=CC N.length []:=by
  unfold CC;refine aie λj=>?_
  grind
 refine⟨CC N.length (root::N.flatMap av.items),?_,λv hv=>Rw hv⟩
 grind [acb,Ao,List.length_nil]
theorem ahQ (fw:lR N)(z:Z h0 h L)(G:oI h0 s N)(hg:gc N root=0){n}(hn:RT+9000<=n) :
  Wp (yw n (s,root)) h λx h'=>(x=true↔Ho N root)/\Z h0 h' L:=by
 have d:=fw.vdg hg;have hN:=fw.len;have hz:80000<=UO:=aiT _ _;have hD:RT=UO+10000:=rfl;have hK:KF=7000:=rfl;have gv:=fw.gv.1 hg;obtain⟨r,hr,hrv⟩:=Zh d fw;unfold yw;refine z.new λx0 h2 z _=>z.iN 0 (ls:=[.sl,li]) (x:=(s,root)) ?_;rw[ah];refine (sN z G fw.bd fw.ht (by omega) (fw.gc root)).mono λy h3 hy=>?_;obtain⟨rfl,z⟩:=hy;rw[By (by simpa using hg)];refine z.iN 0 (ls:=[.sl,li]) (x:=(s,root)) ?_;rw[ah];have hlab:Wp (vj n (s,root)) h3 λy h'=>(y.len=0↔Ho N root)/\Z h0 h' (.au x0 [aI s,vi root] aj::L):=by
  unfold vj;refine z.new λx0 h2 z _=>z.iN 0 (ls:=[.sl,li]) (x:=(s,root)) ?_;rw[ah];refine (sN z G fw.bd fw.ht (by omega) (fw.gc root)).mono λy h3 hy=>?_;obtain⟨rfl,z⟩:=hy;rw[AT (by simpa using hg)];refine z.iN 0 (ls:=[.sl,li]) (x:=(s,root)) ?_;rw[ah];refine (agf fw z G hg hn).mono λy h4 hy=>?_;obtain⟨os,g,o1,o2,o4,o3,z⟩:=hy;refine z.iN 1 (ls:=[.sl,li]) (x:=(s,root)) ?_;rw[ah];refine (Qh z G fw.bd (by omega) hr).mono λy2 h5 hy=>?_;obtain⟨b,rfl,hrl,z⟩:=hy;have z:=z.add (Fr.refl z.wf) (o:=.sl qQ 1 an [] 0) ue.nil (.inl rfl);rw[o3,ah];refine (agl hrl o1 (by omega) n 0 qQ [] 0 h5 _ (by omega) (by omega) (by simp) z).mono λy3 h6 hy=>?_;obtain⟨l2,g2,e1,e2,z⟩:=hy;rw[ag];refine⟨?_,z.drop.drop.drop.drop⟩;rw[e1,List.length_eq_zero_iff,e2];unfold Ho;rw[aj9];refine⟨λe v=>?_,λe=>⟨rfl,λj q v _ hj hv=>?_⟩⟩
  .by_cases hv:v∈root::N.flatMap av.items
   .have hir:IR N.length v:=by
     rcases List.mem_cons.1 hv with rfl|hv
     .exact d.rt
     .obtain⟨x,hx,hv⟩:=List.mem_flatMap.1 hv;exact (d.ix x hx).2 v hv
    rcases (gv.LV v hir).way with w|w
    .grind [List.mem_iff_getElem?]
    .have h1:=d.one v w;have h2:(root::N.flatMap av.items).count v<=(root::N.flatMap refs).count v:=by
      rw[agC,agC];have:∀X:List av,(X.flatMap av.items).count v<=(X.flatMap refs).count v:=λX=>by
       induction X with
       |nil=>exact abi _
       |cons x X ih=>grind [refs]
      grind
     omega
   grind
  .obtain⟨q1,q2⟩:=o1 q (BY hj);rw[hrv q ⟨q1,q2⟩] at hv
   grind
 refine hlab.mono λy h4 hy=>?_;obtain⟨hy,z⟩:=hy;rw[ag];refine⟨?_,z.drop⟩
 grind
end Go.Sh
namespace Go.Sh
open Go Go.Ago Go.Proofs
variable {N N':List av}{root:Int}{φ:Int->Int}{x x':av}
section
variable (I:zb N root N' φ)(g:GV N root)
include I g
theorem zb.at {u}(hx:gt N u=some x):∃x',gt N' (φ u)=some x'/\wA φ x x':=I.nd u x (g.LV u (nG hx)) hx
theorem zb.ieT {u w}(e:IE N u w):IE N' (φ u) (φ w):=by
 obtain⟨x,hx,hw⟩:=e;obtain⟨x',hx',E⟩:=I.at g hx;exact⟨x',hx',E.items.mem_iff.2 (List.mem_map_of_mem hw)⟩
theorem zb.ieF {u w'}(hu:IR N.length u)(e:IE N' (φ u) w'):∃w,φ w=w'/\IE N u w/\IR N.length w:=by
 obtain⟨x,hx⟩:=gZ rfl hu;obtain⟨x',hx',E⟩:=I.at g hx;obtain⟨y,hy,hw⟩:=e;rw[hx'] at hy;cases hy;obtain⟨w,hw2,rfl⟩:=List.mem_map.1 (E.items.mem_iff.1 hw);exact⟨w,rfl,⟨x,hx,hw2⟩,(g.ix x (az hx)).2 w hw2⟩
theorem zb.irT {u}(r:oB N root u):oB N' (φ root) (φ u):=by
 induction r with
 |refl=>exact .refl
 |step _ e ih=>exact ih.step (I.ieT g e)
theorem zb.irF {w'}(r:oB N' (φ root) w'):∃u,φ u=w'/\oB N root u/\IR N.length u:=by
 induction r with
 |refl=>exact⟨root,rfl,.refl,g.rt⟩
 |step _ e ih=>
  obtain⟨u,rfl,h1,h2⟩:=ih;obtain⟨w,rfl,h3,h4⟩:=I.ieF g h2 e;exact⟨w,rfl,h1.step h3,h4⟩
theorem zb.cya:Ff N' (φ root)↔Ff N root:=by
 obtain⟨ψ,h1,h2⟩:=I.back g g.rt;constructor
 .rintro⟨H,hH⟩;exact⟨λu=>H (φ u),λu hu v e=>hH _ (I.irT g hu) _ (I.ieT g e)⟩
 .rintro⟨H,hH⟩;refine⟨λu=>H (ψ u),λu' hu v' e=>?_⟩;obtain⟨u,rfl,h3,h4⟩:=I.irF g hu;obtain⟨v,rfl,h5,h6⟩:=I.ieF g h4 e;simp;rw[h2 u (g.LV u h4),h2 v (g.LV v h6)];exact hH u h3 v h5
end
theorem LM:Ho N root↔(∀u,¬IE N u root)/\(∀u x,gt N u=some x->x.items.Nodup)/\∀u w v,IE N u v->IE N w v->u=w:=by
 have e1:(root∉N.flatMap av.items)↔∀u,¬IE N u root:=by
  refine⟨λh u ⟨x,hx,hv⟩=>h (List.mem_flatMap.2 ⟨x,az hx,hv⟩),λh hm=>?_⟩;obtain⟨x,hx,hv⟩:=List.mem_flatMap.1 hm;obtain⟨i,hi⟩:=List.mem_iff_getElem?.1 hx;exact h (i:Int) ⟨x,by rw[Aa];exact hi,hv⟩
 have e2:(∀x∈N,x.items.Nodup)↔∀u x,gt N u=some x->x.items.Nodup:=by
  refine⟨λh u x hx=>h x (az hx),λh x hx=>?_⟩;obtain⟨i,hi⟩:=List.mem_iff_getElem?.1 hx;exact h (i:Int) x (by rw[Aa];exact hi)
 have e3:(N.Pairwise λa b=>∀v∈a.items,∀w∈b.items,v≠w)↔∀u w v,IE N u v->IE N w v->u=w:=by
  rw[ajJ];refine⟨λh u w v hu hw=>?_,λh i j hi hj hij v hv w hw e=>?_⟩
  .obtain⟨x,hx,hv⟩:=hu;obtain⟨y,hy,hw⟩:=hw;obtain⟨a1,a2⟩:=aC hx;obtain⟨b1,b2⟩:=aC hy
   grind
  .subst e;have:=h (i:Int) (j:Int) v ⟨_,by grind [Aa,List.getElem?_eq_getElem],hv⟩ ⟨_,by grind [Aa,List.getElem?_eq_getElem],hw⟩;omega
 unfold Ho
 grind
theorem zb.trb (I:zb N root N' φ)(g:GV N root):Ho N' (φ root)↔Ho N root:=by
 have inj:∀{u w:Int},IR N.length u->IR N.length w->φ u=φ w->u=w:=λhu hw e=>I.inj _ _ (g.LV _ hu) (g.LV _ hw) e;have ir2:∀{u v:Int},IE N u v->IR N.length u/\IR N.length v:=λ⟨x,hx,hv⟩=>⟨nG hx,(g.ix x (az hx)).2 _ hv⟩;rw[LM,LM];constructor
 .rintro⟨h1,h2,h3⟩;refine⟨λu e=>h1 _ (I.ieT g e),λu x hx=>?_,λu w v e1 e2=>inj (ir2 e1).1 (ir2 e2).1 (h3 _ _ _ (I.ieT g e1) (I.ieT g e2))⟩;obtain⟨x',hx',E⟩:=I.at g hx;have:=E.items.nodup_iff.1 (h2 _ _ hx');exact (List.pairwise_map.1 this).imp λh e=>h (by rw[e])
 .rintro⟨h1,h2,h3⟩;have src:∀{u' v':Int},IE N' u' v'->∃u v,φ u=u'/\φ v=v'/\IE N u v:=λ{u' v'} e=>by
   obtain⟨x,hx,hv⟩:=e;obtain⟨u,hu,rfl⟩:=I.sur u' (nG hx);have hir:=(I.ir g g.rt hu).1;obtain⟨v,rfl,e,_⟩:=I.ieF g hir ⟨x,hx,hv⟩
   grind
  refine⟨λu' e=>?_,λu' y hy=>?_,λu' w' v' e1 e2=>?_⟩
  .obtain⟨u,v,rfl,h4,e⟩:=src e;rw[inj (ir2 e).2 g.rt h4] at e;exact h1 u e
  .obtain⟨u,hu,rfl⟩:=I.sur u' (nG hy);obtain⟨x,hx⟩:=gZ rfl (I.ir g g.rt hu).1;obtain⟨x',hx',E⟩:=I.at g hx;rw[hx'] at hy;cases hy;refine E.items.nodup_iff.2 (List.pairwise_map.2 ((h2 u x hx).imp_of_mem λ{a b} ha hb hne e=>hne ?_));exact inj ((g.ix x (az hx)).2 _ ha) ((g.ix x (az hx)).2 _ hb) e
  grind
noncomputable def tR (N:List av)(u:Int):Nat:=open Classical in (List.range N.length).countP λi:Nat=>decide (oB N u (i:Int))
theorem Zi:∀(L:ε),(L.Pairwise λc c'=>∀w,¬(oB N c w/\oB N c' w))->(L.map (tR N)).sum<=open Classical in (List.range N.length).countP λi:Nat=>decide (∃c∈L,oB N c (i:Int))
 |[],_=>by simp
 |c::L,h=>by
  rw[ah8] at h;have ih:=Zi L h.2;rw[adR,ajk];refine adr (aiS ih _) ?_;unfold tR;refine tX _ λi _=>?_
  grind
theorem oB.last {u w}(h:oB N u w):u=w\/∃p,oB N u p/\IE N p w:=by
 cases h with
 |refl=>exact .inl rfl
 |step r e=>exact .inr ⟨_,r,e⟩
theorem oB.one {u w}(e:IE N u w):oB N u w:=oB.refl.step e
theorem Zj (hc:Ff N root)(hu:∀u w v,IE N u v->IE N w v->u=w){i c c'}(hi:oB N root i)(e:IE N i c)(e':IE N i c')(hne:c≠c'){w}(h:oB N c w)(h':oB N c' w):False:=by
 induction h with
 |refl=>
  rcases h'.last with q|⟨p,r,q⟩
  .exact hne q.symm
  .rw[hu p i c q e] at r;exact hc.no (hi.step e') r e'
 |step r ed ih=>
  rename_i p w;rcases h'.last with q|⟨p',r',q⟩
  .subst q;rw[hu p i _ ed e'] at r;exact hc.no (hi.step e) r e
  grind
theorem Zk (hc:Ff N root)(ht:Ho N root){u}(hu:oB N root u)(hx:gt N u=some x):(x.items.map (tR N)).sum+1<=tR N u:=by
 obtain⟨_,t2,t3⟩:=LM.1 ht;have ed:∀c∈x.items,IE N u c:=λc hc=>⟨x,hx,hc⟩;have h1:=Zi x.items ((t2 u x hx).imp_of_mem λ{c c'} hc1 hc2 hne w q=>Zj hc t3 hu (ed c hc1) (ed c' hc2) hne q.1 q.2);have hir:=nG hx;have h2:(List.range N.length).countP (λi=>i==u.toNat)=1:=by
  have:=(aho (n:=N.length)).count (a:=u.toNat);rw[By (List.mem_range.2 (show u.toNat<N.length by have:=hir.1;have:=hir.2;omega))] at this;exact this
 rw[<-h2];refine adr (aka h1 _) ?_;unfold tR;refine tX _ λi _=>?_;simp only[acu,beq_iff_eq];have e:i=u.toNat->(i:Int)=u:=λe=>by have:=hir.1;omega
 refine⟨λ⟨c,q1,q2⟩=>(oB.one (ed c q1)).trans q2,λq=>by rw[e q];exact .refl,λ⟨⟨c,q1,q2⟩,q3⟩=>?_⟩;rw[e q3] at q2;exact hc.no (hu.step (ed c q1)) q2 (ed c q1)
theorem ahS u:tR N u<=N.length:=by
 grind [tR,Nat.le_trans,List.countP_le_length]
end Go.Sh
namespace Go.Sh
open Go Go.Ago Go.Proofs
variable {N N':List av}{root:Int}{φ:Int->Int}{x x':av}
theorem FK {a b s t}:Lib.compareBytes (a::s) (b::t)<0↔a.toNat<b.toNat\/a.toNat=b.toNat/\Lib.compareBytes s t<0:=by
 rw[Lib.compareBytes]
 grind [UInt8.lt_iff_toNat_lt]
theorem Qi:∀a:List UInt8,¬Lib.compareBytes a a<0
 |[]=>by simp[Lib.compareBytes]
 |a::s=>λh=>(FK.1 h).elim (λh=>by omega) λh=>Qi s h.2
theorem Zl:∀{a b c},Lib.compareBytes a b<0->Lib.compareBytes b c<0->Lib.compareBytes a c<0
 |[],[],_,h1,h2=>h2
 |[],b::t,[],h1,h2=>by simp[Lib.compareBytes] at h2
 |[],b::t,c::r,h1,h2=>by simp[Lib.compareBytes]
 |a::s,[],_,h1,h2=>by simp[Lib.compareBytes] at h1
 |a::s,b::t,[],h1,h2=>by simp[Lib.compareBytes] at h2
 |a::s,b::t,c::r,h1,h2=>by
  rw[FK] at h1 h2⊢;rcases h1 with h1|⟨h1,h3⟩<;>rcases h2 with h2|⟨h2,h4⟩
  .exact .inl (by omega)
  .exact .inl (by omega)
  .exact .inl (by omega)
  .exact .inr ⟨by omega,Zl h3 h4⟩
theorem Zm:∀{a b},a≠b->Lib.compareBytes a b<0\/Lib.compareBytes b a<0
 |[],[],h=>absurd rfl h
 |[],b::t,h=>.inl (by simp[Lib.compareBytes])
 |a::s,[],h=>.inr (by simp[Lib.compareBytes])
 |a::s,b::t,h=>by
  rw[FK,FK];rcases Nat.lt_trichotomy a.toNat b.toNat with c|c|c
  .exact .inl (.inl c)
  .have e:a=b:=UInt8.toNat_inj.1 c;subst e;rcases Zm (a:=s) (λe=>h (by rw[e])) with q|q
   .grind
   grind
  .exact .inr (.inl c)
theorem Qj m:(iota m).Nodup:=by
 grind [iota,List.nodup_range]
theorem Zn {ts}(hm:ts.length<50)(hd:ts.Nodup):∃r,SOr ts r/\r.Perm (iota ts.length)/\r.Pairwise λu v=>U4 ts u v<0:=by
 obtain⟨r,⟨h1,h2⟩,h3⟩:=LD (U4 ts) hm (vy ts.length);have lo:LO (U4 ts) (iota ts.length):=by
  have at':∀u∈iota ts.length,∃t,gt ts u=some t:=λu hu=>Ac (xC hu).1 (xC hu).2;refine⟨λu hu v hv w hw p q=>?_,λu hu p=>?_,λu hu v hv hne=>?_,Qj _⟩
  .obtain⟨a,ha⟩:=at' u hu;obtain⟨b,hb⟩:=at' v hv;obtain⟨c,hc⟩:=at' w hw;unfold U4 at p q⊢;rw[ha,hb] at p;rw[hb,hc] at q;rw[ha,hc];exact Zl p q
  .obtain⟨a,ha⟩:=at' u hu;unfold U4 at p;rw[ha] at p;exact Qi _ p
  .obtain⟨a,ha⟩:=at' u hu;obtain⟨b,hb⟩:=at' v hv;unfold U4;rw[ha,hb];refine Zm λe=>?_;have e:a=b:=by
    obtain⟨⟨a⟩⟩:=a
    simp_all
   subst e;obtain⟨a1,a2⟩:=aC ha;obtain⟨b1,b2⟩:=aC hb
   grind [aL,List.getElem?_inj]
 refine⟨r,⟨λp hp=>xC (h1.mem_iff.1 hp),by rw[h1.length_eq,kH],λc P h n e1 e2 e3 e4=>h3 c P h n e1 e2 (adr (aiS (adr (by decide:600<=700) (aiT 700 _)) _) e3) e4⟩,h1,h2 lo⟩
theorem Eu {γ:Type}{R}(ha:∀a b,R a b->¬R b a):∀{l l':List γ},l.Perm l'->l.Pairwise R->l'.Pairwise R->l=l'
 |[],l',p,_,_=>p.nil_eq
 |a::l,[],p,_,_=>p.eq_nil
 |a::l,b::l',p,h,h'=>by
  rw[ah8] at h h';by_cases e:a=b
  .subst e;rw[Eu ha p.cons_inv h.2 h'.2]
  .have h1:a∈l':=(List.mem_cons.1 (p.mem_iff.1 OF)).resolve_left e;have h2:b∈l:=(List.mem_cons.1 (p.mem_iff.2 OF)).resolve_left (ai3 e)
   grind
def K5P (N:List av)(k:Int):Prop:=∃y,gt N k=some y/\y.kind=5
theorem Hq:∀{ks},(∀k∈ks,∃y,gt N k=some y)->((∀k∈ks,K5P N k)/\H9 N ks=some 0)\/(¬(∀k∈ks,K5P N k)/\H9 N ks=some 16)
 |[],_=>.inl ⟨(λ_ h=>by cases h),rfl⟩
 |k::ks,h=>by
  obtain⟨y,hy⟩:=h k OF;rw[H9,hy];simp only;by_cases c:y.kind=5
  .rw[By c];rcases Hq λk hk=>h k (IN _ hk) with⟨h1,h2⟩|⟨h1,h2⟩
   .refine .inl ⟨λk' hk=>?_,h2⟩;rcases List.mem_cons.1 hk with rfl|hk
    .exact⟨y,hy,c⟩
    .exact h1 k' hk
   grind
  .rw[AT c];refine .inr ⟨λq=>?_,rfl⟩;obtain⟨z,hz,hk⟩:=q k OF
   grind
def Oh (N:List av)(k:Int):ζ:=match gt N k with
 |some y=>y.text
 |none=>ByteArray.empty
theorem Ad {k y}(h:gt N k=some y):Oh N k=y.text:=by unfold Oh;rw[h]
theorem adY {ks}(h:∀k∈ks,∃y,gt N k=some y):KT N ks (ks.map (Oh N)):=by
 refine⟨(adQ ..).symm,λi t ht=>?_⟩;rw[abE] at ht;cases hk:ks[i]? with
 |none=>rw[hk] at ht;cases ht
 |some k=>
  rw[hk] at ht;cases ht;obtain⟨y,hy⟩:=h k (BY hk);exact⟨k,y,rfl,hy,(Ad hy).symm⟩
theorem adZ {y}(h:ru y=some true)(hk:y.kind=5):y.ord=false/\y.keys=[]/\y.items=[]:=by
 unfold ru at h
 grind
theorem Hr (g:GV N root)(hx:x∈N)(h5:∀k∈x.keys,K5P N k):(x.keys.map (Oh N)).Nodup:=by
 refine List.pairwise_map.2 ((g.tw x hx).imp_of_mem λ{a b} ha hb hn e=>hn ?_);obtain⟨y,hy,ky⟩:=h5 a ha;obtain⟨z,hz,kz⟩:=h5 b hb;obtain⟨y1,y2,y3⟩:=adZ (g.fm y (az hy)) ky;obtain⟨z1,z2,z3⟩:=adZ (g.fm z (az hz)) kz;rw[Ad hy,Ad hz] at e;refine⟨1,z,y,hz,hy,by omega,e.symm,by rw[y1,z1],by rw[y3,z3],?_⟩
 grind
theorem Zo {n}(h:n<1000):(Fg n).length<=3:=by
 rw[Fg];split
 .simp
 .rw[Fg];split
  .simp
  .rw[Fg,By (by omega)];simp
theorem Hs {t}(h:t.size<=101):(Fh t).length<=105:=by
 have h1:=Zo (n:=t.size) (by omega);have h2:t.data.toList.length=t.size:=rfl
 grind [Fh,List.length_append,List.length_cons]
section
variable {f W:Nat}{w:Int->Nat}
abbrev JN (N N':List av)(φ:Int->Int)(f:Nat)(w:Int->Nat)(a:Int):Prop:=∀c,∃bs c',PR N f a c bs c'/\PR N' f (φ a) c bs c'/\bs.length<=w a
theorem ad0:∀{l},(∀a∈l,JN N N' φ f w a)->∀c,∃bs c',Seq (PR N f) l c bs c'/\Seq (PR N' f) (l.map φ) c bs c'/\bs.length<=(l.map w).sum
 |[],_,c=>⟨[],c,⟨rfl,rfl⟩,⟨rfl,rfl⟩,agD _⟩
 |a::l,h,c=>by
  obtain⟨b1,c1,h1,h2,h3⟩:=h a OF c;obtain⟨b2,c2,h4,h5,h6⟩:=ad0 (λa ha=>h a (IN _ ha)) c1;refine⟨b1++b2,c2,⟨b1,c1,b2,h1,h4,rfl⟩,⟨b1,c1,b2,h2,h5,rfl⟩,?_⟩
  grind
theorem Zp {ts ts' is is'}(hs:∀t∈ts,t.size<=101)(hl:is.length=ts.length)(h:∀a∈is,JN N N' φ f w a):∀{r r'},(∀p∈r,0<=p/\p<(ts.length:Int)) ->
  r'.map (λp=>(gt ts' p,gt is' p))=r.map (λp=>(gt ts p,(gt is p).map φ))->∀c,∃bs c',N7 ts is (PR N f) r c bs c'/\N7 ts' is' (PR N' f) r' c bs c'/\bs.length<=(r.map λp=>105+w (nth is p)).sum
 |[],[],_,_,c=>⟨[],c,⟨rfl,rfl⟩,⟨rfl,rfl⟩,agD _⟩
 |[],_::_,_,e,_=>by cases e
 |_::_,[],_,e,_=>by cases e
 |p::r,p'::r',hr,e,c=>by
  rw[adR,adR,ajS,air] at e;obtain⟨⟨e1,e2⟩,e3⟩:=e;obtain⟨p1,p2⟩:=hr p OF;obtain⟨t,ht⟩:=Ac p1 p2;obtain⟨a,ha⟩:=Ac (ts:=is) p1 (by omega);rw[ht] at e1;rw[ha] at e2;obtain⟨b1,c1,h1,h2,h3⟩:=h a (az ha) c;obtain⟨b2,c2,h4,h5,h6⟩:=Zp hs hl h (λp hp=>hr p (IN _ hp)) e3 c1;refine⟨Fh t++(b1++b2),c2,⟨t,a,b1,c1,b2,ht,ha,h1,h4,rfl⟩,⟨t,φ a,b1,c1,b2,e1,e2,h2,h5,rfl⟩,?_⟩
  grind [Hs,az,nth,List.length_append]
end
theorem sum_add k {w}:∀l:ε,(l.map λp=>k+w p).sum=k*l.length+(l.map w).sum
 |[]=>rfl
 |a::l=>by
  have:=sum_add k (w:=w) l
  grind
theorem LN (k:Nat){w}:∀l:ε,(l.map λp=>k*w p).sum=k*(l.map w).sum
 |[]=>rfl
 |a::l=>by
  have:=LN k (w:=w) l
  grind
theorem ahT (I:zb N root N' φ)(g:GV N root)(d:Vd N root)(fw:lR N)(hc:Ff N root)(ht:Ho N root){H:Int->Nat}(hH:∀u,oB N root u->∀v,IE N u v->H v<H u):∀f u,oB N root u->IR N.length u->H u<f->JN N N' φ f (λu=>10000*tR N u) u
 |0,u,hu,hir,hf=>by omega
 |f+1,u,hu,hir,hf=>by
  intro c;show ∃bs c',PR N (f+1) u c bs c'/\PR N' (f+1) (φ u) c bs c'/\bs.length<=10000*tR N u;obtain⟨x,hx⟩:=gZ rfl hir;have hxm:=az hx;obtain⟨x',hx',E⟩:=I.at g hx;obtain⟨hxi,hxk⟩:=fw.map x hxm;have hti:=Zk hc ht hu hx;by_cases hc0:c≠0
  .exact⟨[],c,⟨x,hx,.inl ⟨hc0,rfl,rfl⟩⟩,⟨x',hx',.inl ⟨hc0,rfl,rfl⟩⟩,agD _⟩
  have hc0:c=0:=by omega
  subst hc0;have bad:∀{w:Int},Ia N x=some w->Ia N' x'=some w->w≠0->∃bs c',PR N (f+1) u 0 bs c'/\PR N' (f+1) (φ u) 0 bs c'/\bs.length<=10000*tR N u:=λ{w} h1 h2 h3=>
   ⟨[],w,⟨x,hx,.inr ⟨rfl,w,h1,.inl ⟨h3,rfl,rfl⟩⟩⟩,⟨x',hx',.inr ⟨rfl,w,h2,.inl ⟨h3,rfl,rfl⟩⟩⟩,agD _⟩
  have hsz:=fw.txt x hxm;have items:∀a∈x.items,JN N N' φ f (λu=>10000*tR N u) a:=λa ha=>by
   have e:IE N u a:=⟨x,hx,ha⟩;exact ahT I g d fw hc ht hH f a (hu.step e) ((g.ix x hxm).2 a ha) (by grind)
  by_cases k2:x.kind=2
  .have w1:Ia N x=some 0:=by unfold Ia;rw[By k2]
   have w2:Ia N' x'=some 0:=by unfold Ia;rw[By (by rw[E.k];exact k2)]
   refine⟨105::(x.text.data.toList++[101]),0,⟨x,hx,.inr ⟨rfl,0,w1,.inr ⟨rfl,.inl ⟨k2,rfl,rfl⟩⟩⟩⟩,⟨x',hx',.inr ⟨rfl,0,w2,.inr ⟨rfl,.inl ⟨by rw[E.k];exact k2,by rw[E.t],rfl⟩⟩⟩⟩,?_⟩;have:x.text.data.toList.length=x.text.size:=rfl
   grind
  by_cases k5:x.kind=5
  .have w1:Ia N x=some 0:=by unfold Ia;rw[AT k2,By k5]
   have w2:Ia N' x'=some 0:=by unfold Ia;rw[E.k,AT k2,By k5]
   refine⟨Fh x.text,0,⟨x,hx,.inr ⟨rfl,0,w1,.inr ⟨rfl,.inr (.inl ⟨.inl k5,rfl,rfl⟩)⟩⟩⟩,⟨x',hx',.inr ⟨rfl,0,w2,.inr ⟨rfl,.inr (.inl ⟨.inl (by rw[E.k];exact k5),by rw[E.t],rfl⟩)⟩⟩⟩,?_⟩
   grind [Hs]
  by_cases k9:x.kind=9
  .have w1:Ia N x=some 0:=by unfold Ia;grind
   have w2:Ia N' x'=some 0:=by unfold Ia;rw[E.k,AT k2,AT k5,By k9]
   obtain⟨b1,c',h1,h2,h3⟩:=ad0 items 0;have ei:x'.items=x.items.map φ:=by
    obtain⟨o,_,o2,o3,_⟩:=E.e
    grind [FG]
   refine⟨108::(b1++[101]),c',⟨x,hx,.inr ⟨rfl,0,w1,.inr ⟨rfl,.inr (.inr (.inl ⟨k9,b1,h1,rfl⟩))⟩⟩⟩,⟨x',hx',.inr ⟨rfl,0,w2,.inr ⟨rfl,.inr (.inr (.inl ⟨by rw[E.k];exact k9,b1,by rw[ei];exact h2,rfl⟩))⟩⟩⟩,?_⟩;rw[LN] at h3
   grind
  have w1:Ia N x=xD N x:=by unfold Ia;grind
  have w2:Ia N' x'=xD N' x':=by unfold Ia;rw[E.k,AT k2,AT k5,AT k9]
  by_cases k6:x.kind=6
  .have e1:xD N x=some (if u8 x.text then 11 else 0):=by unfold xD;rw[By k6]
   have e2:xD N' x'=some (if u8 x.text then 11 else 0):=by unfold xD;rw[E.k,By k6,E.t]
   cases hu8:u8 x.text with
   |true=>
    grind
   |false=>
    rw[hu8] at e1 e2;refine⟨Fh x.text,0,⟨x,hx,.inr ⟨rfl,0,w1.trans e1,.inr ⟨rfl,.inr (.inl ⟨.inr k6,rfl,rfl⟩)⟩⟩⟩,⟨x',hx',.inr ⟨rfl,0,w2.trans e2,.inr ⟨rfl,.inr (.inl ⟨.inr (by rw[E.k];exact k6),by rw[E.t],rfl⟩)⟩⟩⟩,?_⟩
    grind [Hs]
  by_cases k10:x.kind=10
  rotate_left
  .have e1:xD N x=some 10:=by unfold xD;grind
   have e2:xD N' x'=some 10:=by unfold xD;rw[E.k,AT k6,AT k10]
   grind
  cases ho:x.ord with
  |true=>
   have e1:xD N x=some 10:=by unfold xD;grind
   have e2:xD N' x'=some 10:=by unfold xD;rw[E.k,AT k6,By k10,By (by rw[E.o];exact ho)]
   grind
  |false=>
   have e1:xD N x=H9 N x.keys:=by unfold xD;grind
   have e2:xD N' x'=H9 N' x'.keys:=by unfold xD;rw[E.k,AT k6,By k10,E.o,ho];rfl
   have mk:=g.zW hxm k10;have kin:∀k∈x.keys,∃y y',gt N k=some y/\gt N' (φ k)=some y'/\wA φ y y':=λk hk=>by
    obtain⟨y,hy⟩:=gZ rfl ((g.ix x hxm).1 k hk);obtain⟨y',hy',E'⟩:=I.at g hy
    grind
   obtain⟨l,hl1,hl2⟩:=E.keys (g.zW hxm) (λh=>absurd k10 h);have kin':∀k'∈x'.keys,∃k∈x.keys,φ k=k':=λk' hk=>by
    grind
   have k5to:∀k∈x.keys,(K5P N k↔K5P N' (φ k)):=λk hk=>by
    obtain⟨y,y',hy,hy',E'⟩:=kin k hk;constructor
    .rintro⟨z,hz,h5⟩;rw[hy] at hz;cases hz;exact⟨y',hy',by rw[E'.k];exact h5⟩
    .rintro⟨z,hz,h5⟩;rw[hy'] at hz;cases hz;exact⟨y,hy,by rw[<-E'.k];exact h5⟩
   have all5:(∀k∈x.keys,K5P N k)↔∀k∈x'.keys,K5P N' k:=by
    grind
   rcases Hq (λk hk=>let ⟨y,_,hy,_⟩:=kin k hk;⟨y,hy⟩) with⟨q1,q2⟩|⟨q1,q2⟩ <;>
    rcases Hq (N:=N') (ks:=x'.keys) (λk hk=>by grind) with⟨q3,q4⟩|⟨q3,q4⟩
   ·-- entries in order
    obtain⟨o,o1,_,o3,o4⟩:=E.e;rw[By k10] at o4;have tlen:(x.keys.map (Oh N)).length=x.items.length:=(by rw[adQ,mk]);have klen':x'.keys.length=x.items.length:=(by rw[o4,adQ,o1.length_eq,kH]);have ilen':x'.items.length=x.items.length:=E.il;have hsm:=fw.sm d x hxm k10;have g':(x'.keys.map (Oh N')).Nodup:=by
     have e3:x'.keys.map (Oh N')=l.map (Oh N):=by
      rw[hl2,ajM];refine ajx λk hk=>?_;obtain⟨y,y',hy,hy',E'⟩:=kin k (hl1.mem_iff.1 hk);show Oh N' (φ k)=Oh N k;rw[Ad hy',Ad hy,E'.t]
     grind [Hr]
    obtain⟨r,s1,s2,s3⟩:=Zn (by omega) (Hr g hxm q1);obtain⟨r',s1',s2',s3'⟩:=Zn (by grind) g';rw[tlen] at s2;rw[adQ,klen'] at s2';have eo:(iota x.items.length).map (λp=>(gt (x'.keys.map (Oh N')) p,gt x'.items p))=o.map (λp=>(gt (x.keys.map (Oh N)) p,(gt x.items p).map φ)):=by
     refine aie λi=>?_;rw[abE,abE];by_cases hi:i<x.items.length
     .obtain⟨a,ha⟩:=eY (by rw[o1.length_eq,kH];exact hi);obtain⟨a1,a2⟩:=xC (o1.mem_iff.1 (BY ha));rw[pR hi,ha,ahH,ahH,Aa,Aa,abE,o4,o3,abE,abE,ha];obtain⟨k,hk⟩:=Ac (ts:=x.keys) a1 (by omega);obtain⟨b,hb⟩:=Ac a1 a2;obtain⟨y,y',hy,hy',E'⟩:=kin k (az hk);have n1:nth x.keys a=k:=(by unfold nth;rw[hk];rfl);have n2:nth x.items a=b:=(by unfold nth;rw[hb];rfl);have n3:gt (x.keys.map (Oh N)) a=some (Oh N k):=by
       obtain⟨_,h5⟩:=aC hk;unfold gt;rw[By a1,abE,h5];rfl
      rw[n3,hb];simp only[ahH,n1,n2];rw[Ad hy',Ad hy,E'.t]
     grind [List.getElem?_eq_none,kH]
    have ee:r'.map (λp=>(gt (x'.keys.map (Oh N')) p,gt x'.items p))=r.map (λp=>(gt (x.keys.map (Oh N)) p,(gt x.items p).map φ)):=by
     refine Eu (R:=λa b=>∃s t,a.1=some s/\b.1=some t/\Lib.compareBytes s.data.toList t.data.toList<0) (λa b q1 q2=>?_) ?_ ?_ ?_
     .obtain⟨s,t,h1,h2,h3⟩:=q1;obtain⟨s2,t2,h4,h5,h6⟩:=q2;rw[h1] at h5;cases h5;rw[h2] at h4;cases h4;exact Qi _ (Zl h3 h6)
     .refine ((s2'.map _).trans ?_).trans (s2.map _).symm
      grind
     .refine List.pairwise_map.2 (s3'.imp_of_mem λ{a b} ha hb h=>?_);obtain⟨s,hs⟩:=Ac (s1'.1 a ha).1 (s1'.1 a ha).2;obtain⟨t,ht⟩:=Ac (s1'.1 b hb).1 (s1'.1 b hb).2
      grind [U4]
     .refine List.pairwise_map.2 (s3.imp_of_mem λ{a b} ha hb h=>?_);obtain⟨s,hs⟩:=Ac (s1.1 a ha).1 (s1.1 a ha).2;obtain⟨t,ht⟩:=Ac (s1.1 b hb).1 (s1.1 b hb).2
      grind [U4]
    obtain⟨b1,c',h1,h2,h3⟩:=Zp (λt ht=>by
      obtain⟨k,hk,rfl⟩:=List.mem_map.1 ht;obtain⟨y,_,hy,_⟩:=kin k hk;rw[Ad hy];exact fw.txt y (az hy)) tlen.symm items s1.1 ee 0
    refine⟨100::(b1++[101]),c',⟨x,hx,.inr ⟨rfl,0,(w1.trans e1).trans q2,.inr ⟨rfl,.inr (.inr (.inr ⟨k10,_,r,b1,adY (λk hk=>let ⟨y,_,hy,_⟩:=kin k hk;⟨y,hy⟩),tlen.symm,s1,h1,rfl⟩))⟩⟩⟩,
     ⟨x',hx',.inr ⟨rfl,0,(w2.trans e2).trans q4,.inr ⟨rfl,.inr (.inr (.inr ⟨by rw[E.k];exact k10,_,r',b1,adY (λk hk=>by obtain⟨k,hk2,rfl⟩:=kin' k hk;obtain⟨_,y',_,hy',_⟩:=kin k hk2;exact⟨y',hy'⟩),by grind,s1',h2,rfl⟩))⟩⟩⟩,?_⟩
    have hsum:(r.map λp=>105+10000*tR N (nth x.items p)).sum=105*x.items.length+10000*(x.items.map (tR N)).sum:=by
     rw[(s2.map _).sum_nat,FG (ψ:=λp=>105+10000*tR N p),sum_add 105,LN]
    grind
   .grind
   .grind
   grind
end Go.Sh
namespace Go.Sh
open Go Go.Ago Go.Proofs
variable {α β:Type}{h h' h0:ai}{L:List bG}{N:List av}{Oe s:Sl}{root:Int}{Q:β->ai->Prop}
abbrev GB (b:Nat)(Oe:Sl)(root:Int):bG:=.au b [aI Oe,vi root] aj
theorem agn (G:oI h0 Oe N){x0}(hN:N.length<=40) :
  ∀n i p q h ,N.length-i<n->i<=N.length->(∀j x ,j<i->N[j]?=some x->x.text.size<=100/\x.keys.length<=80/\x.items.length<=80)->Z h0 h (GB x0 Oe root::L) ->
   Wp (fW n (al x0) p q (i:Int)) h λy h'=>(∀w,y=.inl w->∀(j:Nat) x ,N[j]?=some x->x.text.size<=100/\x.keys.length<=80/\x.items.length<=80)/\(∀b,y=.inr b->b=false)/\Z h0 h' (GB x0 Oe root::L):=by
 intro n
 induction n with
 |zero=>intro i p q h h1;omega
 |succ n ih=>
  intro i p q h h1 h2 hf z;rw[wX];unfold py;refine z.ld 0 (x:=Oe) ?_;rw[G.len];by_cases hi:i<N.length
  .rw[By (by simp;omega)];obtain⟨x,hx⟩:=eY hi;refine z.ld 0 (x:=Oe) ?_;refine G.at z (by omega) (by simpa using hx) λa ks is nd ik ii=>nd.iN ?_;refine z.node λx2 h2' z=>?_;have fin:Wp (AI (Sum.inr false:(Int×Int)⊕Bool)) h2' λy h'=>(∀w,y=.inl w->∀(j:Nat) (x:av),N[j]?=some x->x.text.size<=100/\x.keys.length<=80/\x.items.length<=80)/\(∀b,y=.inr b->b=false)/\Z h0 h' (GB x0 Oe root::L):=by
    rw[ag]
    grind [z.drop]
   refine z.ld 0 ?_;by_cases c1:(100:Int)<x.text.size
   .rw[By (by simpa using c1)];exact fin
   rw[AT (by simpa using c1)];refine z.ld 0 (x:=ks) ?_;rw[ik.len];by_cases c2:(80:Int)<x.keys.length
   .rw[By (by simpa using c2)];exact fin
   rw[AT (by simpa using c2)];refine z.ld 0 (x:=is) ?_;rw[ii.len];by_cases c3:(80:Int)<x.items.length
   .rw[By (by simpa using c3)];exact fin
   rw[AT (by simpa using c3)];unfold nw;refine z.ld 0 (x:=ks) (z.ld 0 (x:=is) (z.ld 0 ?_));rw[vk (by omega) (by omega)];refine ih (i+1) _ _ h2' (by omega) (by omega) (λj y hj hy=>?_) z.drop
   grind
  .rw[AT (by simp;omega),ag]
   grind
theorem Zq (G:oI h0 Oe N)(z:Z h0 h L){n}(hn:50<n):Wp (nR n (Oe,root)) h λy h'=>(y=true->lR N)/\Z h0 h' L:=by
 unfold nR;refine z.new λx0 h1 z _=>?_;refine z.ld 0 (x:=Oe) ?_;rw[G.len];by_cases c1:(40:Int)<N.length
 .rw[By (by simpa using c1),ag];exact⟨λh=>(by cases h),z.drop⟩
 rw[AT (by simpa using c1),ah];refine (agn G (by omega) n 0 0 0 h1 (by omega) (by omega) (λj x hj=>by omega) z).mono λy h2 hy=>?_;obtain⟨f1,f2,z⟩:=hy;cases y with
 |inl w=>
  have ft:∀x∈N,x.text.size<=100:=λx hx=>by obtain⟨j,hj⟩:=List.mem_iff_getElem?.1 hx;exact (f1 w rfl j x hj).1
  have fg:lR N:=⟨by omega,λx hx=>by
   grind [List.mem_iff_getElem?],λx hx=>by have:=ft x hx;omega⟩
  show Wp (if _ then _ else _) h2 _;split
  .rw[ag];exact⟨λ_=>fg,z.drop⟩
  .rw[ag];exact⟨λ_=>fg,z.drop⟩
 |inr b=>
  show Wp (AI b) h2 _;rw[ag];exact⟨λh=>(by grind),z.drop⟩
theorem N9 (d:Vd N root)(f:lR N):lR (wm N root):=⟨by rw[CM d];exact f.len,λy hy=>by
 have:=(abY d f.bd).2.2 y hy
 grind,λy hy=>by
 rcases II d hy with rfl|⟨x,hx,_,h2,_⟩
 .show (ofBytes []).size<=_;decide
 .rw[h2];exact f.txt x hx⟩
theorem rf.out {C e l o}(B:rf h0 h C e l (o::L)):Z h0 h L:=by
 obtain⟨p,t,g,h1,h2,z⟩:=B;exact z.drop.drop.drop
open Classical in
noncomputable def prA (N:List av)(root:Int)(bs:List UInt8)(c:Int):ζ×Int:=
 if gc N root≠0 then (ofBytes [],3) else if ¬Ff N root then (ofBytes [],14) else if ¬Ho N root then (ofBytes [],15) else if c≠0 then (ofBytes [],c) else if 65536<bs.length then (ofBytes [],6) else (ofBytes bs,0)
theorem Zr (fw:lR N)(z:Z h0 h L)(G:oI h0 s N){d n}(hn:RT+9000+d*90+70000<=n){bs c}(hp:gc N root=0->Ff N root->Ho N root->PR N d root 0 bs c)(hb:bs.length<=cF) :
  Wp (eD n (s,root)) h λy h'=>y=prA N root bs c/\Z h0 h' L:=by
 have hB:=fw.bd;have ht:=fw.ht;have hz:80000<=UO:=aiT _ _;have hD:RT=UO+10000:=rfl;have hK:KF=7000:=rfl;unfold eD;generalize hres:prA N root bs c=res;unfold prA at hres;refine z.new λx0 h1' z _=>?_;refine z.iN 0 (ls:=[.sl,li]) (x:=(s,root)) ?_;rw[ah];refine (sN z G hB ht (by omega) (fw.gc root)).mono λy h2 hy=>?_;obtain⟨rfl,z⟩:=hy;by_cases hg:gc N root=0
 rotate_left
 .rw[By hg] at hres;rw[By (by simpa using hg),ag];exact⟨hres,z.drop⟩
 rw[AT (by simpa using hg)] at hres;rw[AT (by simpa using hg)];refine z.iN 0 (ls:=[.sl,li]) (x:=(s,root)) ?_;rw[ah];refine (ai1 fw z G hg (by omega)).mono λy h3 hy=>?_;obtain⟨hy,z⟩:=hy;by_cases hc:Ff N root
 rotate_left
 .rw[By hc] at hres;rw[By (hy.2 hc),ag];exact⟨hres,z.drop⟩
 rw[AT (by simpa using hc)] at hres;rw[AT (λe=>hy.1 e hc)];refine z.iN 0 (ls:=[.sl,li]) (x:=(s,root)) ?_;rw[ah];refine (ahQ fw z G hg (by omega)).mono λy h4 hy=>?_;obtain⟨hy,z⟩:=hy;by_cases hb2:Ho N root
 rotate_left
 .rw[By hb2] at hres;have e:y=false:=by
   grind
  subst e;rw[By (by rfl),ag];exact⟨hres,z.drop⟩
 rw[AT (by simpa using hb2)] at hres;obtain rfl:y=true:=hy.2 hb2;rw[AT (by simp)];refine z.iN 0 (ls:=[.sl,li]) (x:=(s,root)) ?_;refine z.new λx8 h5 z _=>?_;refine z.ld 1 (x:=root) ?_;have z:=z.add (Fr.refl z.wf) (o:=.sl qQ 1 jT [] 0) ue.nil (.inl rfl);have P:rf h0 h5 ⟨x8,s,root⟩ 0 [] (.au x0 [aI s,vi root] aj::L):=⟨none,qQ,0,.inl rfl,λ_=>rfl,Z.lX (pre:=[_,_,_]) z [1,0,2] (by grind)⟩;rw[ah];refine (aca (C:=⟨x8,s,root⟩) hB.2.1 G hB ht d n root 0 bs c [] h5 _ (hp hg hc hb2) (by omega) (by grind) P).mono λ_ h6 P=>?_;rw[ahI] at P;refine aS (P.er ?_);by_cases hc:c=0
 .subst hc;rw[AT (by simp)];refine aS ?_;rw[ah];refine (ab4 P).mono λy h7 hy=>?_;obtain⟨rfl,P⟩:=hy;rw[AT (by simp)] at hres;by_cases hl:65536<bs.length
  .rw[By hl] at hres;rw[By (by simp;omega),ag];exact⟨hres,P.out⟩
  .rw[AT hl] at hres;rw[AT (by simp;omega)];refine aS ?_;rw[ah];refine (ab5 P (by omega)).mono λy h8 hy=>?_;obtain⟨rfl,z⟩:=hy;rw[ag];exact⟨hres,z.drop⟩
 .rw[By (by simpa using hc)];refine aS (P.er ?_);rw[By hc] at hres;rw[ag];exact⟨hres,P.out⟩
end Go.Sh
