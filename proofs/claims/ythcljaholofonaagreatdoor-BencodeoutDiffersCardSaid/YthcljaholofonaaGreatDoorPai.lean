
import Derived.Test.YthcljaholofonaaGreatDoorPah
set_option linter.all false
namespace Go.Sh
open Go Go.Ago Go.Proofs
variable {α β:Type}{h h' h0:aj}{L:List bA}{Q:β->aj->Prop}
abbrev vb (b:UInt8):ξ:=.int .u8 (b.toNat:Int)
def adb {m:M α}{f}{x}{h1}(e:m h=some (x,h1))(q:Wp (f x) h1 Q):Wp (sh m f) h Q:=by
 rw[ah];exact⟨x,h1,e,q⟩
abbrev LF (pb:Nat):Addr:=⟨pb,2,none⟩
structure PB where
 b:Nat
 s:Sl
 root:Int
abbrev PB.cells (C:PB)(p:θ)(t:Sl)(e:Int):δ:=[aA C.s,vi C.root,.pointer p,aA t,vi e]
abbrev PB.own (C:PB)(p:θ)(t:Sl)(e:Int)(l:List UInt8)(g:Nat):List bA:=[.au C.b (C.cells p t e) jV,.sl t 1 gH (l.map vb) g]
def ua (h0 h:aj)(C:PB)(e:Int)(l:List UInt8)(L:List bA):Prop:=∃p t g,(p=none\/p=some (LF C.b))/\(l=[]->t=oz)/\Z h0 h (C.own p t e l g++L)
section
variable {C:PB}{e:Int}{l:List UInt8}
def QW {n}(b:ua h0 h C e l L):Wp (gh n (some (LF C.b))) h λ_ h'=>ua h0 h' C e l L:=by
 obtain⟨p,t,g,hp,hs,z⟩:=b;unfold gh;refine aP ?_;refine z.ld 0 ?_;rcases hp with rfl|rfl
 .rw[By (by rfl)];have lb:LB h C.b (C.cells none t e) jV:=z.get 0 rfl;refine aP ?_;refine adb (by unfold inB;simp only[lb.get];rfl) ?_;unfold ur;rw[ah,ag];refine aP ?_;refine adb (by unfold atB;simp only[lb.get];rw[By ⟨trivial,.inr rfl⟩]) ?_;refine aP ?_;refine z.st 0 λh1 z1=>ag.2 ⟨some (LF C.b),t,g,.inr rfl,hs,z1⟩
 .rw[AT (by simp)];refine aP ?_;refine z.ld 0 ?_;refine adb (x:=true) (h1:=h) (by unfold eqP;simp) ?_;rw[AT (by simp)];exact ag.2 ⟨some (LF C.b),t,g,.inr rfl,hs,z⟩
def Jr {p}{t}{g}(z:Z h0 h (C.own p t e l g++L)):t.len=l.length:=by
 have o:nv h t 1 gH (l.map vb) g:=z.get 1 rfl;have:=o.1;grind
def DR {n}{b}{c}(hc:c=(b.toNat:Int))(B:ua h0 h C e l L)(hl:l.length+1<=bJ):Wp (cy n (some (LF C.b)) c) h λ_ h'=>ua h0 h' C e (l++[b]) L:=by
 subst hc;unfold cy;rw[ah];refine (QW B).mono λ_ h1 B=>?_;obtain⟨p,s,g,hp,hs,z⟩:=B;refine aP ?_;refine z.ld 0 (x:=s) ?_;have hsl:=Jr z;refine Z.GI z 1 rfl (by decide) rfl (by grind) λs' h2 g' hs' z2 _=>?_;refine aP ?_;have z2:Z h0 h2 (.au C.b (C.cells p s e) jV::.sl s' 1 gH ((l++[b]).map vb) g'::L):=by grind
 refine z2.st 0 λh3 z3=>ag.2 ⟨p,s',g',hp,λe=>by simp at e,z3⟩
def Ov {n}{t}(B:ua h0 h C e l L)(hl:l.length+t.size<=bJ):Wp (dS n (some (LF C.b)) t) h λ_ h'=>ua h0 h' C e (l++t.data.toList) L:=by
 unfold dS;rw[ah];refine (QW B).mono λ_ h1 B=>?_;obtain⟨p,s,g,hp,hs,z⟩:=B;refine aP ?_;refine z.ld 0 (x:=s) ?_;have hsl:=Jr z;by_cases ht:t.size=0
 .have e1:t.data.toList=[]:=List.length_eq_zero_iff.1 ht;have e2:bK t=[]:=by grind [bK]
  rw[ht,e2,ah];have o:nv h1 s 1 gH (l.map vb) g:=z.get 1 rfl;refine⟨s,h1,?_,?_⟩
  .show zO false s 1 gH 0 [] h1=some (s,h1);unfold zO;rw[By rfl];rcases o.2 with⟨rfl,_⟩|⟨_,_,_,b,base,e,_⟩
   .simp
   grind
  .refine aP ?_;rw[e1,aiP];refine z.st 0 λh3 z3=>ag.2 ⟨p,s,g,hp,hs,z3⟩
 .have hcl:(bK t).length=t.size*1:=by unfold bK;simp_all
  refine Z.GI z 1 rfl ht hcl (by grind) λs' h2 g' hs' z2 _=>?_;refine aP ?_;have z2:Z h0 h2 (.au C.b (C.cells p s e) jV::.sl s' 1 gH ((l++t.data.toList).map vb) g'::L):=by rw[aiJ];exact z2
  refine z2.st 0 λh3 z3=>ag.2 ⟨p,s',g',hp,λe=>?_,z3⟩;exfalso;have:=an1 List.length e;rw[acm,agy] at this;have h4:t.data.toList.length=t.size:=rfl;omega
theorem Fr.shut (hw:WF h){g}(h0:g≠0):Fr (·=g) h (h.shut g):=by
 have hg:∀j k,(h.shut g).get j=some k->h.get j=some k:=λj k hj=>by
  grind [aj.shut]
 refine⟨⟨λj hj=>?_,hw.used,λj c g' b e hj=>hw.jU j c g' b e (hg _ _ hj),hw.maps⟩,acX _,λj c g' b e hj hx=>?_,λ_ _ _=>rfl,λ_ _=>rfl,λj hj hn=>?_,λ_ _ e _=>e⟩
 .have:=hw.get j hj;simp[aj.shut,this]
 .grind [aj.shut,cT]
 .simp[aj.shut,hn]
def Ln:∀l:List UInt8,bytesOf (l.map vb)=some l
 |[]=>rfl
 |b::l=>by
  simp only[adZ,bytesOf,Ln l,IS]
  simp_all
def agR {n}(B:ua h0 h C e l L):Wp (oA n (some (LF C.b))) h λr h'=>r=(l.length:Int)/\ua h0 h' C e l L:=by
 have B':=B;obtain⟨p,s,g,hp,hs,z⟩:=B;unfold oA;refine aP ?_;refine z.ld 0 (x:=s) ?_;have hsl:=Jr z;exact ag.2 ⟨by rw[hsl],B'⟩
def agS {n}(B:ua h0 h C e l L)(hl:l.length<=1073741824):Wp (lJ n (some (LF C.b))) h λr h'=>r=ofBytes l/\Z h0 h' L:=by
 obtain⟨p,s,g,hp,hs,z⟩:=B;unfold lJ;refine aP (aP ?_);refine z.ld 0 (x:=s) ?_;have hsl:=Jr z;have o:nv h s 1 gH (l.map vb) g:=z.get 1 rfl;cases l with
 |nil=>
  have e:=hs rfl;subst e;rw[ah];refine⟨none,h,rfl,?_⟩;refine z.ld 0 (x:=oz) ?_;rw[ah];refine⟨ofBytes [],h,rfl,ag.2 ⟨rfl,z.drop.drop⟩⟩
 |cons b l=>
  have hn:s.len≠0:=by grind
  obtain⟨b2,base,e1,e2,hg⟩:=o.au hn;rw[ah];refine⟨s.a,h,by rw[e1];unfold H2;grind,?_⟩;refine z.ld 0 (x:=s) ?_;have hr:=o.read;rw[adY] at hr;rw[ah];have hle:=o.le;have hgo:h0.next<g:=by
   have:=(z.own (.sl s 1 gH ((b::l).map vb) g) (IN _ OF)).2;exact this.resolve_left hg
  have hX:∀o∈L,o.jU=g->o.jU=0:=λo ho e=>by
   have h1:=(List.pairwise_cons.1 z.xB).2;have h2:=(List.pairwise_cons.1 h1).1 o ho;exact absurd (h2 e.symm) hg
  refine⟨ofBytes (b::l),h.shut g,?_,ag.2 ⟨rfl,z.drop.drop.step (Fr.shut z.wf hg) (λg' e _=>by grind) hX⟩⟩;unfold aeb;rw[e1] at hr⊢;simp only[IS,hr,e2];rw[By ⟨by omega,by grind,hg,trivial⟩,Ln]
theorem ua.new (B:ua h0 h C e l L){t}{cs}{f}(q:∀b h',ua h0 h' C e l (.au b cs t::L)->Wp (f b) h' Q)(hs:cs.all fv=true:=by rfl):Wp (sh (gG none t cs) f) h Q:=by
 obtain⟨p,s,g,hp,hs',z⟩:=B;refine z.new (λb h' z _=>q b h' ⟨p,s,g,hp,hs',?_⟩) hs;exact Z.iH (pre:=[_,_,_]) z [1,2,0] (by grind)
def ua.Ig (B:ua h0 h C e l L){t}{c}{n:Int}{f}(h1:0<=n)(h2:n<=bJ)
  (q:∀b h',ua h0 h' C e l (.au b (List.replicate n.toNat c).flatten t::L)->Wp (f ⟨some ⟨b,0,none⟩,n.toNat,n.toNat+1⟩) h' Q) (hs:c.all fv=true:=by rfl):Wp (sh (xm none t c n n) f) h Q:=by
 obtain⟨p,s,g,hp,hs',z⟩:=B;refine z.Ig h1 h2 (λb h' z _=>q b h' ⟨p,s,g,hp,hs',?_⟩) hs;exact Z.iH (pre:=[_,_,_]) z [1,2,0] (by grind)
theorem ua.drop {o}(B:ua h0 h C e l (o::L)):ua h0 h C e l L:=by
 obtain⟨p,s,g,hp,hs,z⟩:=B;exact⟨p,s,g,hp,hs,z.sub (.cons₂ _ (.cons₂ _ (.cons _ (.refl _))))⟩
def ua.ld (B:ua h0 h C e l L)(i:Nat){b o}{cs}{t}{lf}{v}{x}{f}
  (q:Wp (f x) h Q) (hi:L[i]?=some (.au b cs t):=by rfl) (hv:cs[o]?=some v:=by rfl) (hx:D9 lf v=some x:=by rfl):Wp (sh (dz lf ⟨b,o,none⟩) f) h Q:=by
 obtain⟨p,s,g,hp,hs,z⟩:=B;exact z.ld (i+2) q hi hv hx
def ua.eZ (B:ua h0 h C e l L)(i:Nat){b}{cs}{t}{ls}{x}{f}
  (q:Wp (f x) h Q) (hi:L[i]?=some (.au b cs t):=by rfl) (hx:Ea ls cs=some x:=by rfl) (hl:ls.length=cs.length:=by rfl):Wp (sh (cF ls ⟨b,0,none⟩) f) h Q:=by
 obtain⟨p,s,g,hp,hs,z⟩:=B;exact z.eZ (i+2) q hi hx hl
def ua.st (B:ua h0 h C e l L) i {b o}{cs vs cs'}{t}{f}
  (q:∀h',ua h0 h' C e l (L.set i (.au b cs' t))->Wp (f ()) h' Q) (hi:L[i]?=some (.au b cs t):=by rfl) (hc:aR cs o vs=cs':=by rfl) (ho:o+vs.length<=cs.length:=by first|decide|simp) (hs:vs.all fv=true:=by rfl) :
  Wp (sh (sL ⟨b,o,none⟩ vs) f) h Q:=by
 obtain⟨p,s,g,hp,hs',z⟩:=B;exact z.st (i+2) (λh' z=>q h' ⟨p,s,g,hp,hs',z⟩) hi hc ho hs
def ua.gr (B:ua h0 h C e l L){f:Sl->M β}(q:Wp (f C.s) h Q):Wp (sh (dz .sl (((ak C.b).plus 0).plus 0)) f) h Q:=by
 obtain⟨p,s,g,hp,hs',z⟩:=B;exact z.ld 0 q
def ua.er (B:ua h0 h C e l L){f:Int->M β}(q:Wp (f e) h Q):Wp (sh (dz li ((ak C.b).plus 4)) f) h Q:=by
 obtain⟨p,s,g,hp,hs',z⟩:=B;exact z.ld 0 q
def ua.set (B:ua h0 h C e l L){e'}{f}(q:∀h',ua h0 h' C e' l L->Wp (f ()) h' Q):Wp (sh (sL ((ak C.b).plus 4) [vi e']) f) h Q:=by
 obtain⟨p,s,g,hp,hs',z⟩:=B;exact z.st 0 λh' z=>q h' ⟨p,s,g,hp,hs',z⟩
end
end Go.Sh
namespace Go.Sh
def s7 (n:Nat):List UInt8:=if n<10 then [UInt8.ofNat (48+n)] else s7 (n/10)++[UInt8.ofNat (48+n%10)]
termination_by n
def zd (t:ByteArray):List UInt8:=s7 t.size++58::t.data.toList
end Go.Sh
namespace Go.Sh
open Go Go.Ago Go.Proofs
variable {α β:Type}{h h' h0:aj}{L:List bA}{Q:β->aj->Prop}
def ade:∀n:Nat,Lib.decDigits n=s7 n:=by
 intro n
 induction n using Nat.strongRecOn with
 |ind n ih=>
  rw[Lib.decDigits,s7]
  grind
def QX s:∀n pos ,s.size-pos<=n->Lib.validGoD n (s.data.toList.drop pos)=(rY s (s.size+1) pos).isNone
 |0,pos,hn=>by rw[Lib.validGoD,rY,AT (by omega)];rfl
 |n+1,pos,hn=>by
  have hl:s.data.toList.length=s.size:=rfl;rw[Lib.validGoD];by_cases hp:pos<s.size
  .rw[AT (by simp_all),Lib.decodeL_drop];split
   .grind [Z4]
   .rename_i hb;have hw:=width_pos s pos hp;rw[aoB,NM hp hb];exact QX s n _ (by omega)
  .rw[By (aco (by omega)),rY,AT hp];rfl
def adf t:Lib.validD t.data.toList=u8 t:=by
 unfold Lib.validD u8;have:=QX t t.data.toList.length 0 (by simp_all)
 grind
def Ow (N:List ao):ε->Option Int
 |[]=>some 0
 |k::ks=>match gt N k with
  |none=>none
  |some y=>if y.kind=5 then Ow N ks else some 16
def Ox (N:List ao)(x:ao):Option Int:=
 if x.kind=6 then some (if u8 x.text then 11 else 0) else
 if x.kind=10 then (if x.ord then some 10 else Ow N x.keys) else some 10
def Y5 (N:List ao)(x:ao):Option Int:=if x.kind=2 then some 0 else if x.kind=5 then some 0 else if x.kind=9 then some 0 else Ox N x
def KT (N:List ao)(ks:ε)(ts:List ζ):Prop:=ks.length=ts.length/\∀(i:Nat) t,ts[i]?=some t->∃k y,ks[i]?=some k/\gt N k=some y/\y.text=t
def cvT (ts:List ζ)(u v:Int):Int:=match gt ts u,gt ts v with
 |some a,some b=>Lib.compareBytes a.data.toList b.data.toList
 |_,_=>0
def SOr (ts:List ζ)(r:ε):Prop:=
 (∀p∈r,0<=p/\p<(ts.length:Int))/\r.length=ts.length /\
 ∀(c:Cx) (P:List bA) (h:aj) (n:Nat),c.m=ts.length->c.OK (cvT ts)->c.k+(ts.length+700)<=n->c.St P h (iota ts.length) ->
  Wp ((cl n).cn (arr c.b ts.length) c.x) h λ_ h'=>c.St P h' r
def Seq (R:Int->Int->List UInt8->Int->Prop):ε->Int->List UInt8->Int->Prop
 |[],c,bs,c'=>bs=[]/\c'=c
 |a::r,c,bs,c'=>∃b1 c1 b2,R a c b1 c1/\Seq R r c1 b2 c'/\bs=b1++b2
def TE (ts:List ζ)(is:ε)(R:Int->Int->List UInt8->Int->Prop):ε->Int->List UInt8->Int->Prop
 |[],c,bs,c'=>bs=[]/\c'=c
 |i::r,c,bs,c'=>∃t a b1 c1 b2,gt ts i=some t/\gt is i=some a/\R a c b1 c1/\TE ts is R r c1 b2 c'/\bs=zd t++(b1++b2)
def PR (N:List ao):Nat->Int->Int->List UInt8->Int->Prop
 |0=>λ_ _ _ _=>False
 |d+1=>λa c bs c'=>∃x,gt N a=some x/\((c≠0/\bs=[]/\c'=c)\/(c=0/\∃w,Y5 N x=some w/\((w≠0/\bs=[]/\c'=w)\/(w=0/\(
   (x.kind=2/\bs=105::(x.text.data.toList++[101])/\c'=0) \/
   ((x.kind=5\/x.kind=6)/\bs=zd x.text/\c'=0) \/
   (x.kind=9/\∃b1,Seq (PR N d) x.items 0 b1 c'/\bs=108::(b1++[101])) \/
   (x.kind=10/\∃ts r b1,KT N x.keys ts/\x.items.length=ts.length/\SOr ts r/\TE ts x.items (PR N d) r 0 b1 c'/\bs=100::(b1++[101])))))))
section
variable {s:Sl}{N:List ao}{C:PB}{e:Int}{l:List UInt8}
def adh (B:ua h0 h C e l L)(G:iK h0 C.s N){ks}{kl}(ik:IL h0 ks kl)(hk:kl.length<1073741824){w} :
  ∀n i ,kl.length-i<n->i<=kl.length->Ow N (kl.drop i)=some w->Wp (fB n (some (ak C.b)) ks (kl.length:Int) (i:Int)) h λr h'=>(match r with | .inl _=>w=0 | .inr y=>y=w)/\h'=h:=by
 intro n
 induction n with
 |zero=>intro i h1;omega
 |succ n ih=>
  intro i h1 h2 hw;rw[uI];unfold jZ;obtain⟨p,t,g,hp,hs,z⟩:=id B;by_cases hi:i<kl.length
  .rw[By (by grind)];obtain⟨k,hk1⟩:=cG hi;rw[drop_cons hk1,Ow] at hw;cases hy:gt N k with
   |none=>rw[hy] at hw;cases hw
   |some y=>
    rw[hy] at hw;simp at hw;obtain⟨g1,g2⟩:=ax hy;refine (ik.fr z.fr).ix (by omega) (by simpa using hk1) λa g cl=>cl.mN rfl rfl ?_;refine aP ?_;refine B.gr ?_;refine G.at z g1 g2 λa ks is nd _ _=>nd.Sa ?_;by_cases h5:y.kind=5
    .rw[By h5] at hw;rw[AT (by grind),pA h2 hk];exact ih (i+1) (by omega) (by omega) hw
    .rw[AT h5] at hw;cases hw;rw[By (by grind),ag]
     grind
  .rw[AT (by grind),ag];rw[aco (by omega),Ow] at hw
   grind
def adi (B:ua h0 h C e l L)(G:iK h0 C.s N){x}{ks is}(ik:IL h0 ks x.keys)(hk:x.keys.length<1073741824)(ht:x.text.size<=65536){w}(hw:Y5 N x=some w){n}(hn:x.keys.length<n) :
  Wp (jS n (some (ak C.b)) (x.kind,x.text,x.ord,ks,is)) h λr h'=>r=w/\ua h0 h' C e l L:=by
 unfold jS;unfold Y5 at hw;refine B.new λb h1 B=>?_;refine B.ld 0 (x:=x.kind) ?_;by_cases h2:x.kind=2
 .rw[By h2] at hw;cases hw;rw[By (by grind),ag];exact⟨rfl,B.drop⟩
 rw[AT h2] at hw;rw[AT (by grind)];by_cases h5:x.kind=5
 .rw[By h5] at hw;cases hw;rw[By (by grind),ag];exact⟨rfl,B.drop⟩
 rw[AT h5] at hw;rw[AT (by grind)];by_cases h9:x.kind=9
 .rw[By h9] at hw;cases hw;rw[By (by grind),ag];exact⟨rfl,B.drop⟩
 rw[AT h9] at hw;rw[AT (by grind)];unfold lL;unfold Ox at hw;by_cases h6:x.kind=6
 .rw[By h6] at hw;rw[By (by grind)];refine B.ld 0 (x:=x.text) ?_;unfold eV;rw[By (by omega),ah,ag,adf];cases hu:u8 x.text with
  |true=>rw[hu] at hw;cases hw;rw[By rfl,ag];exact⟨rfl,B.drop⟩
  |false=>rw[hu] at hw;cases hw;rw[AT (by simp),ag];exact⟨rfl,B.drop⟩
 rw[AT h6] at hw;rw[AT (by grind)];by_cases h10:x.kind=10
 .rw[By h10] at hw;rw[By (by grind)];refine B.ld 0 (x:=x.ord) ?_;cases ho:x.ord with
  |true=>rw[ho] at hw;cases hw;rw[By rfl,ag];exact⟨rfl,B.drop⟩
  |false=>
   rw[ho] at hw;rw[AT (by simp)];refine B.ld 0 (x:=ks) ?_;rw[ik.len,ah];refine (adh B G ik hk n 0 (by omega) (by omega) (by simpa using hw)).mono λr h2 hr=>?_;obtain⟨hr,rfl⟩:=hr;cases r with
   |inl _=>exact ag.2 ⟨hr.symm,B.drop⟩
   |inr y=>exact ag.2 ⟨hr,B.drop⟩
 .rw[AT h10] at hw;cases hw;rw[AT (by grind),ag];exact⟨rfl,B.drop⟩
def QZ (B:ua h0 h C e l L){t:ζ}(ht:t.size<=65536){n:Nat}(hl:l.length+(zd t).length<=bJ) :
  Wp (ic n (some (ak C.b)) t) h λ_ h'=>ua h0 h' C e (l++zd t) L:=by
 unfold ic;have e1:Lib.itoa (t.size:Int)=s7 t.size:=by unfold Lib.itoa;rw[AT (by omega),IS,ade]
 have e2:t.data.toList.length=t.size:=rfl;unfold zd at hl;rw[acm,acg,e2] at hl;refine aP ?_;unfold strconv_Itoa;rw[By (by omega),e1,ah,ag,ah];refine (Ov B (t:=⟨(s7 t.size).toArray⟩) (by show l.length+(s7 t.size).toArray.size<=bJ;grind)).mono λ_ h1 B=>?_;have B:ua h0 h1 C e (l++s7 t.size) L:=B;refine aP ?_;rw[ah];refine (DR (b:=58) rfl B (by grind)).mono λ_ h2 B=>?_;refine aP ?_;rw[ah];refine (Ov B (t:=t) (by grind)).mono λ_ h3 B=>?_;rw[ag]
 grind [zd]
end
end Go.Sh
namespace Go.Sh
open Go Go.Ago Go.Proofs
variable {α β:Type}{h h' h0:aj}{L:List bA}{Q:β->aj->Prop}
def KT.at {N}{ks}{ts}(k:KT N ks ts){p}{t}(ht:gt ts p=some t):∃q y,0<=p/\ks[p.toNat]?=some q/\gt N q=some y/\y.text=t:=by
 obtain⟨g1,g2⟩:=ax ht;obtain⟨q,y,h1,h2,h3⟩:=k.2 _ _ g2
 grind
def MX {γ}{ts:List γ}{p}(h1:0<=p)(h2:p<(ts.length:Int)):∃t,gt ts p=some t:=by
 obtain⟨t,ht⟩:=cG (l:=ts) (i:=p.toNat) (by omega);exact⟨t,by unfold gt;grind⟩
section
variable {s:Sl}{N:List ao}{C:PB}{e:Int}{l:List UInt8}{x:ao}{ks is:Sl}{x0 x6:Nat}{ts:List ζ}
abbrev NB (C:PB)(x:ao)(ks is:Sl)(x0 x6:Nat):List bA:=[.au x6 [vi x.kind,.string x.text,.bool x.ord,aA ks,aA is] ar,.au x0 [.pointer (some (ak C.b))] tS]
abbrev adj (x0 x6:Nat):ξ:=Value.func (Fn.func lE) #[] #[Value.pointer (some (ak x0)),Value.pointer (some (ak x6))]
def agT (B:ua h0 h C e l (NB C x ks is x0 x6++L))(G:iK h0 C.s N)(ik:IL h0 ks x.keys)(k:KT N x.keys ts){u v:Int}(hu:0<=u/\u<(ts.length:Int))(hv:0<=v/\v<(ts.length:Int)){n:Nat} :
  Wp (acC n (adj x0 x6) u v) h λr h'=>r=cvT ts u v/\h'=h:=by
 obtain⟨p,t,g,hp,hs,z⟩:=id B;obtain⟨t1,h1⟩:=MX hu.1 hu.2;obtain⟨t2,h2⟩:=MX hv.1 hv.2;obtain⟨q1,y1,_,a1,a2,rfl⟩:=k.at h1;obtain⟨q2,y2,_,b1,b2,rfl⟩:=k.at h2;obtain⟨a3,a4⟩:=ax a2;obtain⟨b3,b4⟩:=ax b2;have hc:cvT ts u v=Lib.compareBytes y1.text.data.toList y2.text.data.toList:=by grind [cvT]
 rw[hc];unfold acC aw;rw[By (by rfl),ah];refine lD (c:=(ak x0,ak x6)) rfl ?_;unfold mR;refine B.ld 1 (lf:=.ptr) (x:=some (ak C.b)) (aP (B.gr ?_));refine B.ld 0 (o:=0+3) (lf:=.sl) (x:=ks) ?_;refine (ik.fr z.fr).ix hu.1 a1 λa g cl=>cl.mN (l:=li) rfl rfl ?_;refine G.at z a3 a4 λa _ _ nd _ _=>nd.O0 ?_;refine B.ld 1 (lf:=.ptr) (x:=some (ak C.b)) (aP (B.gr ?_));refine B.ld 0 (o:=0+3) (lf:=.sl) (x:=ks) ?_;refine (ik.fr z.fr).ix hv.1 b1 λa g cl=>cl.mN (l:=li) rfl rfl ?_;refine G.at z b3 b4 λa _ _ nd _ _=>nd.O0 ?_;unfold strings_Compare kC cU;simp only[ah,ag];exact⟨Lib.cmp_eq _ _,trivial⟩
def agU {m b:Nat}(hm:m<1073741824)(a0 a1:Addr) :
  ∀(n i:Nat) (h:aj),m-i<n->i<=m->ua h0 h C e l (.au b (((iota m).take i++List.replicate (m-i) 0).map vi) an::L) ->
   Wp (cW n a0 a1 (arr b m) (m:Int) (i:Int)) h λ_ h'=>ua h0 h' C e l (.au b ((iota m).map vi) an::L):=by
 intro n
 induction n with
 |zero=>intro i h h1;omega
 |succ n ih=>
  intro i h h1 h2 B;rw[vr];unfold kV;have hl:=gN m;by_cases hi:i<m
  .rw[By (by grind)];refine EP (by omega) (by omega) ?_;rw[IS];refine B.st 0 (λh3 B=>?_) rfl (yv (by grind)) (by grind) rfl;have hf:=fill (vc hi);rw[hl] at hf;rw[hf] at B;rw[pA h2 (by omega)];exact ih (i+1) h3 (by omega) (by omega) B
  .rw[AT (by grind),ag]
   grind
def NW (h0:aj)(C:PB)(N:List ao)(M d:Nat):Prop:=∀(n:Nat) (a c:Int) (bs:List UInt8) (c':Int) (l:List UInt8) (h:aj) (L:List bA),
 PR N d a c bs c'->d*(M+10)+2*M+1000<=n->l.length+bs.length<=bJ->ua h0 h C c l L->Wp (db n (some (ak C.b)) a) h λ_ h'=>ua h0 h' C c' (l++bs) L
def agV {M d}(hM:M<1073741824)(hW:NW h0 C N M d)(ii:IL h0 is x.items)(hi:x.items.length<=M) :
  ∀n i c bs c' l h ,d*(M+10)+2*M+1000+(x.items.length-i)<n->i<=x.items.length->Seq (PR N d) (x.items.drop i) c bs c'->l.length+bs.length<=bJ ->
   ua h0 h C c l (NB C x ks is x0 x6++L)->Wp (cX n (ak x0) is (x.items.length:Int) (i:Int)) h λ_ h'=>ua h0 h' C c' (l++bs) (NB C x ks is x0 x6++L):=by
 intro n
 induction n with
 |zero=>intro i c bs c' l h h1;omega
 |succ n ih=>
  intro i c bs c' l h h1 h2 hs hl B;rw[vt];unfold kW;obtain⟨p,t,g,hp,hs',z⟩:=id B;by_cases hlt:i<x.items.length
  .rw[By (by grind)];obtain⟨a,ha⟩:=cG hlt;rw[drop_cons ha,Seq] at hs;obtain⟨b1,c1,b2,r1,r2,rfl⟩:=hs;rw[acm] at hl;refine (ii.fr z.fr).ix (by omega) (by simpa using ha) λ_ _ cl=>cl.mN (l:=li) rfl rfl ?_;refine B.ld 1 ?_;rw[ah];refine (hW n a c b1 c1 l h _ r1 (by omega) (by omega) B).mono λ_ h3 B=>?_;rw[pA h2 (by omega)];have:=ih (i+1) c1 b2 c' (l++b1) h3 (by omega) (by omega) r2 (by grind) B
   rwa [ad3] at this
  .rw[AT (by grind),ag]
   grind [List.drop_eq_nil_of_le,Seq]
def amV {M d}(hM:M<1073741824)(hW:NW h0 C N M d)(G:iK h0 C.s N)(hT:∀x∈N,x.text.size<=65536)(ik:IL h0 ks x.keys)(ii:IL h0 is x.items)(k:KT N x.keys ts){r:ε}{b}(hr:r.length<=M) :
  ∀n i c bs c' l h ,d*(M+10)+2*M+1000+(r.length-i)<n->i<=r.length->TE ts x.items (PR N d) (r.drop i) c bs c'->l.length+bs.length<=bJ ->
   ua h0 h C c l (NB C x ks is x0 x6++(.au b (r.map vi) an::L))->Wp (cV n (ak x0) (ak x6) (arr b r.length) (r.length:Int) (i:Int)) h λ_ h'=>ua h0 h' C c' (l++bs) (NB C x ks is x0 x6++(.au b (r.map vi) an::L)):=by
 intro n
 induction n with
 |zero=>intro i c bs c' l h h1;omega
 |succ n ih=>
  intro i c bs c' l h h1 h2 hs hl B;rw[vq];unfold kU;obtain⟨p,t,g,hp,hs',z⟩:=id B;by_cases hlt:i<r.length
  .rw[By (by grind)];obtain⟨j,hj⟩:=cG hlt;rw[drop_cons hj,TE] at hs;obtain⟨t,a,b1,c1,b2,q1,q2,r1,r2,rfl⟩:=hs;obtain⟨q,y,j0,a1,a2,rfl⟩:=k.at q1;obtain⟨a3,a4⟩:=ax a2;obtain⟨i1,i2⟩:=ax q2;rw[acm,acm] at hl;refine EP (b:=b) (m:=r.length) (by omega) (by omega) ?_;refine B.ld 2 (o:=(i:Int).toNat) (lf:=li) (x:=j) ?_ rfl (by rw[IS,abt,hj];rfl) rfl;refine B.ld 1 (lf:=.ptr) (x:=some (ak C.b)) ?_;refine B.ld 1 (lf:=.ptr) (x:=some (ak C.b)) (aP (B.gr ?_));refine B.ld 0 (o:=0+3) (lf:=.sl) (x:=ks) ?_;refine (ik.fr z.fr).ix j0 a1 λ_ _ cl=>cl.mN (l:=li) rfl rfl ?_;refine G.at z a3 a4 λ_ _ _ nd _ _=>nd.O0 ?_;rw[ah];refine (QZ B (hT y (BY a4)) (by omega)).mono λ_ h3 B=>?_;obtain⟨p,t,g,hp,hs',z⟩:=id B;refine B.ld 1 (lf:=.ptr) (x:=some (ak C.b)) ?_;refine B.ld 0 (o:=0+4) (lf:=.sl) (x:=is) ?_;refine (ii.fr z.fr).ix i1 i2 λ_ _ cl=>cl.mN (l:=li) rfl rfl ?_;rw[ah];refine (hW n a c b1 c1 _ h3 _ r1 (by omega) (by grind) B).mono λ_ h4 B=>?_;rw[pA h2 (by omega)];have:=ih (i+1) c1 b2 c' _ h4 (by omega) (by omega) r2 (by grind) B;rw[ad3,ad3] at this;exact this
  .rw[AT (by grind),ag]
   grind [List.drop_eq_nil_of_le,TE]
def ua.node (B:ua h0 h C e l L){f:Nat->M β}(q:∀b h',ua h0 h' C e l (.au b [vi x.kind,.string x.text,.bool x.ord,aA ks,aA is] ar::L)->Wp (f b) h' Q) :
  Wp (sh (gG none ar [vi 0,Value.string (ofBytes []),Value.bool false,aI,aI]) λb=>sh (sL (ak b) [vi x.kind,Value.string x.text,Value.bool x.ord,aA ks,aA is]) λ_=>f b) h Q:=
 B.new λb h1 B=>B.st 0 (o:=0) (cs':=[vi x.kind,.string x.text,.bool x.ord,aA ks,aA is]) λh2 B=>q b h2 B
set_option maxRecDepth 20000 in
def agW {d M n m:Nat}(h8:m<=M)(hn:d*(M+10)+3*M+1001<=n):0+(m+700)<=n:=by omega
def Vq {M d:Nat}(hM:M<1073741824)(hW:NW h0 C N M d)(G:iK h0 C.s N)(hB:Bd N M)(hT:∀x∈N,x.text.size<=65536){a:Int}(hx:gt N a=some x)(ik:IL h0 ks x.keys)(ii:IL h0 is x.items){n:Nat}(hn:d*(M+10)+3*M+1001<=n)
  {bs:List UInt8} {c c':Int} (hl:l.length+bs.length<=bJ)
  (hp:(c≠0/\bs=[]/\c'=c)\/(c=0/\((x.kind=2/\bs=105::(x.text.data.toList++[101])/\c'=0) \/
   ((x.kind=5\/x.kind=6)/\bs=zd x.text/\c'=0) \/
   (x.kind=9/\∃b1,Seq (PR N d) x.items 0 b1 c'/\bs=108::(b1++[101])) \/
   (x.kind=10/\∃ts r b1,KT N x.keys ts/\x.items.length=ts.length/\SOr ts r/\TE ts x.items (PR N d) r 0 b1 c'/\bs=100::(b1++[101])))))
  (B:ua h0 h C c l (NB C x ks is x0 x6++L)):Wp (eU (az.at n) n (ak x0) (ak x6)) h λ_ h'=>ua h0 h' C c' (l++bs) L:=by
 have hxm:=BY (ax hx).2;have hbd:=hB.2.2 x hxm;have htx:=hT x hxm;have htl:x.text.data.toList.length=x.text.size:=rfl;have fin:∀{h':aj} {c':Int} {l:List UInt8},ua h0 h' C c' l (NB C x ks is x0 x6++L)->ua h0 h' C c' l L:=λB=>B.drop.drop;unfold eU;refine B.ld 1 (aP (B.er ?_));rcases hp with⟨h1,rfl,rfl⟩|⟨rfl,hp⟩
 .rw[By (by grind),ag,aiP];grind
 rw[AT (by simp)];refine B.ld 0 ?_;rcases hp with⟨h2,rfl,rfl⟩|⟨h5,rfl,rfl⟩|⟨h9,b1,hs,rfl⟩|⟨h10,ts,r,b1,k,hkl,so,hs,rfl⟩
 .simp only[acg,acm,htl,agy] at hl;rw[By (by grind)];refine B.ld 1 (aP ?_);refine B.ld 0 ?_;have z1:(ofBytes [105]).size=1:=rfl;have z2:(ofBytes [101]).size=1:=rfl;rw[ah,tc];refine⟨by grind,?_⟩;rw[ah,tc];refine⟨by grind,?_⟩;rw[ah];refine (Ov B (by grind)).mono λ_ h1 B=>?_;rw[ag]
  grind [ofBytes,ByteArray.data_append,Array.toList_append]
 .have n2:x.kind≠2:=by omega
  have n9:x.kind≠9:=by omega
  have n10:x.kind≠10:=by omega
  rw[AT (by simpa using n2),AT (by simpa using n9),AT (by simpa using n10)];refine B.ld 1 (lf:=.ptr) (x:=some (ak C.b)) ?_;refine B.ld 0 (o:=0+1) (lf:=.str) (x:=x.text) ?_;rw[ah];refine (QZ B htx hl).mono λ_ h1 B=>?_;rw[ag];exact fin B
 .have n2:x.kind≠2:=by omega
  simp only[acg,acm,agy] at hl;rw[AT (by simpa using n2),By (by simpa using h9)];refine B.ld 1 (lf:=.ptr) (x:=some (ak C.b)) (aP ?_);rw[ah];refine (DR (b:=108) rfl B (by omega)).mono λ_ h1 B=>?_;refine B.ld 0 (o:=0+4) (lf:=.sl) (x:=is) ?_;rw[ii.len,ah];refine (agV hM hW ii hbd.2 n 0 0 b1 c' _ h1 (by omega) (by omega) (by simpa using hs) (by grind) B).mono λ_ h2 B=>?_;refine B.ld 1 (lf:=.ptr) (x:=some (ak C.b)) (aP ?_);rw[ah];refine (DR (b:=101) rfl B (by grind)).mono λ_ h3 B=>?_;rw[ag];have B:=fin B;simpa using B
 .have n2:x.kind≠2:=by omega
  have n9:x.kind≠9:=by omega
  have hkk:=k.1;have h8:ts.length<=M:=by rw[<-hkk];exact hbd.1
  have hn7:=agW h8 hn;simp only[acg,acm,agy] at hl;rw[AT (by simpa using n2),AT (by simpa using n9),By (by simpa using h10)];refine B.ld 1 (aP ?_);rw[ah];refine (DR (b:=100) rfl B (by omega)).mono λ_ h1 B=>?_;refine B.ld 0 (x:=ks) ?_;rw[ik.len,hkk];refine B.Ig (by omega) (by unfold bJ;omega) λb h2 B=>?_;rw[IS] at B⊢;rw[lH] at B;rw[ah];refine (agU (m:=ts.length) (by omega) (ak x0) (ak x6) n 0 h2 (by omega) (by omega) (by simpa using B)).mono λ_ h3 B=>?_;rw[ah];obtain⟨p,t,g,hp,hs',z⟩:=id B;have z:Z h0 h3 (.au b ((iota ts.length).map vi) an::([]++(C.own p t 0 (l++[100]) g++(NB C x ks is x0 x6++L)))):=Z.iH (pre:=[_,_,_]) z [2,0,1] (by grind);have hst:Cx.St ⟨h0,b,ts.length,adj x0 x6,0,λX=>X=C.own p t 0 (l++[100]) g++(NB C x ks is x0 x6++L)⟩ [] h3 (iota ts.length):=⟨C.own p t 0 (l++[100]) g++(NB C x ks is x0 x6++L),rfl,z⟩;refine (so.2.2 ⟨h0,b,ts.length,adj x0 x6,0,λX=>X=C.own p t 0 (l++[100]) g++(NB C x ks is x0 x6++L)⟩ [] h3 n rfl ?_ hn7 hst).mono λ_ h4 hx=>?_
  .intro n' u v h R X _ hu1 hu2 hv1 hv2 hX z;subst hX;have z':=z.perm apo;rw[ad3] at z';have B':ua h0 h C 0 (l++[100]) (NB C x ks is x0 x6++(L++R)):=⟨p,t,g,hp,hs',by grind⟩;refine (agT B' G ik k ⟨hu1,hu2⟩ ⟨hv1,hv2⟩).mono λr h' hr=>?_
   grind
  .obtain⟨_,rfl,z⟩:=hx;have B:ua h0 h4 C 0 (l++[100]) (NB C x ks is x0 x6++(.au b (r.map vi) an::L)):=⟨p,t,g,hp,hs',Z.iH (pre:=[_,_,_,_,_]) z [1,2,3,4,0] (by simp only[acg,agy];decide)⟩;have hrl:=so.2.1;rw[ah,<-hrl];refine (amV hM hW G hT ik ii k (by omega) n 0 0 b1 c' _ h4 (by omega) (by omega) (by grind) (by grind) B).mono λ_ h5 B=>?_;refine B.ld 1 (aP ?_);rw[ah];refine (DR (b:=101) rfl B (by grind)).mono λ_ h6 B=>?_;rw[ag];have B:=B.drop.drop.drop
   grind
def agX {M}(hM:M<1073741824)(G:iK h0 C.s N)(hB:Bd N M)(hT:∀x∈N,x.text.size<=65536):∀d,NW h0 C N M d:=by
 intro d
 induction d with
 |zero=>intro n a c bs c' l h L hp;exact hp.elim
 |succ d ih=>
  intro n a c bs c' l h L hp hn hl B;have hmul:(d+1)*(M+10)=d*(M+10)+(M+10):=Nat.succ_mul _ _;obtain⟨n,rfl⟩:∃m,n=m+1:=⟨n-1,by omega⟩;obtain⟨x,hx,hp⟩:=hp;obtain⟨g1,g2⟩:=ax hx;have hxm:=BY g2;have hbd:=hB.2.2 x hxm;rw[xe];unfold mT;refine B.new λx0 h1 B=>?_;refine B.ld 0 (aP (B.gr ?_));obtain⟨p,t,g,h2,h3,z⟩:=id B;refine G.at z g1 g2 λaa ks is nd ik ii=>nd.eZ ?_;refine B.node λx6 h2 B=>?_;have B:ua h0 h2 C c l (NB C x ks is x0 x6++L):=B;refine B.ld 1 (aP (B.er ?_));rcases hp with⟨hc,rfl,rfl⟩|⟨rfl,w,hw,hp⟩
  .rw[AT (by grind)];exact Vq hM ih G hB hT hx ik ii (by omega) hl (.inl ⟨hc,rfl,rfl⟩) B
  .rw[By (by rfl)];refine B.ld 1 ?_;refine B.ld 1 ?_;refine B.eZ 0 (ls:=[li,.str,.bool,.sl,.sl]) (x:=(x.kind,x.text,x.ord,ks,is)) ?_;refine rQ (λa ha=>?_) (adi B G ik (by omega) (hT x hxm) hw (by omega)) λr h3 hr=>?_
   .simp at ha;subst ha;obtain⟨p,t,g,h2,h3,z⟩:=id B;refine⟨_,_,z.get 3 rfl,λr1 h3 hr1=>?_⟩;obtain⟨_,p,t,g,h2,h3,z⟩:=hr1;exact z.get 3 rfl
   .obtain⟨rfl,B⟩:=hr;refine aP (B.set λh4 B=>?_);refine Vq hM ih G hB hT hx ik ii (by omega) hl ?_ B
    simp_all
end
end Go.Sh
namespace Go.Sh
open Go Go.Ago Go.Proofs
variable {α β:Type}{h h' h0:aj}{L:List bA}{Q:β->aj->Prop}{s:Sl}{root:Int}{N:List ao}
def D7:∀a b c ,jO (a++b) c=(jO a c).bind (jO b)
 |[],b,c=>rfl
 |x::a,b,c=>by
  rw[ad0,jO,jO];cases bump c x with
  |none=>rfl
  |some c1=>exact D7 a b c1
def amW {b cap}{e}{sl}{xs}(il:IL h0 sl xs){B}(hB:B<1073741824)(hl:xs.length<=B) a1 a2 a3 :
  ∀n i c r h L ,xs.length-i<n->i<=xs.length->jO (xs.drop i) c=some r->Z h0 h (.au b (c.map vi) e::L) ->
   Wp (qm n ⟨some ⟨b,0,none⟩,c.length,cap⟩ a1 a2 a3 sl (sl.len:Int) (i:Int)) h λ_ h'=>Z h0 h' (.au b (r.map vi) e::L):=by
 intro n
 induction n with
 |zero=>intro i c r h L h1;omega
 |succ n ih=>
  intro i c r h L h1 h2 hb z;rw[Dm];unfold uE;rw[il.len];by_cases hi:i<xs.length
  .rw[By (by grind)];obtain⟨x,hx⟩:=cG hi;rw[drop_cons hx,jO] at hb;cases hb1:bump c x with
   |none=>rw[hb1] at hb;cases hb
   |some c1=>
    rw[hb1] at hb;refine (il.fr z.fr).ix (by omega) (by simpa using hx) λa g cl=>cl.mN rfl rfl ?_;refine zK (i:=0) z rfl hb1 rfl λh2 z=>?_;have:=ih (i+1) c1 r h2 L (by omega) (by omega) hb z;rw[pA (anR hi) (by omega)];rw[il.len,u9 hb1] at this;exact this
  .rw[AT (by grind),ag];have:xs.drop i=[]:=aco (by omega);rw[this] at hb;cases hb;exact z
def amX (G:iK h0 s N){B}(hB:Bd N B){b cap}{e} :
  ∀n i c r h L ,N.length-i+B+5<n->i<=N.length->jO ((N.drop i).flatMap ao.items) c=some r->Z h0 h (.au b (c.map vi) e::L) ->
   Wp (qn n ⟨some ⟨b,0,none⟩,c.length,cap⟩ s (s.len:Int) (i:Int)) h λ_ h'=>Z h0 h' (.au b (r.map vi) e::L):=by
 intro n
 induction n with
 |zero=>intro i c r h L h1;omega
 |succ n ih=>
  intro i c r h L h1 h2 hb z;rw[Dn];unfold uF;rw[G.len];by_cases hi:i<N.length
  .rw[By (by grind)];obtain⟨x,hx⟩:=cG hi;rw[drop_cons hx,ahr,D7] at hb;have hbd:=hB.2.2 x (BY hx);cases hb2:jO x.items c with
   |none=>rw[hb2] at hb;cases hb
   |some c2=>
    rw[hb2] at hb;simp at hb;refine G.at z (by omega) (by simpa using hx) λa ks is nd ik ii=>nd.eZ ?_;refine z.node λx2 h2' z=>?_;refine z.ld 0 ?_;have z:=z.perm (List.Perm.swap _ _ _);rw[ah];refine (amW ii hB.2.1 hbd.2 _ _ _ n 0 c c2 _ _ (by omega) (by omega) (by grind) z).mono λ_ h4 z=>?_;have z:=(z.perm (List.Perm.swap _ _ _)).drop;have:=ih (i+1) c2 r h4 L (by omega) (by omega) hb z;rw[pA (anR hi) (by have:=hB.1;have:=hB.2.1;omega)];rw[G.len,qF hb2] at this;exact this
  .rw[AT (by grind),ag];have:N.drop i=[]:=aco (by omega);rw[this] at hb;cases hb;exact z
def agY (N:List ao)(root:Int):Option ε:=jO (root::N.flatMap ao.items) (List.replicate N.length 0)
def TF (z:Z h0 h L)(G:iK h0 s N){B}(hB:Bd N B){n}(hn:2*B+6<n){r}(hr:agY N root=some r) :
  Wp (xE n (s,root)) h λx h'=>∃b:Nat,x=arr b N.length/\r.length=N.length/\Z h0 h' (.au b (r.map vi) an::L):=by
 unfold xE;unfold agY at hr;rw[jO] at hr;cases h1:bump (List.replicate N.length 0) root with
 |none=>rw[h1] at hr;cases hr
 |some c1=>
  rw[h1] at hr;simp at hr;refine z.new λx0 h1' z f1=>?_;refine z.ld 0 ?_;rw[G.len];refine z.Ig (by omega) (by have:=hB.1;have:=hB.2.1;grind [bJ]) λb h2 z f2=>?_;rw[IS] at z⊢;rw[lH] at z;refine z.ld 1 ?_;refine zK (i:=0) z rfl h1 (by simp) λh3 z=>?_;refine z.ld 1 ?_;rw[ah];have hl:=u9 h1;rw[aeP] at hl;have:=amX G hB (cap:=N.length+1) n 0 c1 r h3 (.au x0 [aA s,vi root] ai::L) (by have:=hB.1;omega) (by omega) (by grind) z;rw[hl] at this;refine this.mono λ_ h4 z=>?_;rw[ag];exact⟨b,rfl,by rw[qF hr,hl],(z.perm (List.Perm.swap _ _ _)).drop⟩
def amY {b m:Nat}{r}(hm:r.length=m){so}{os:ε}{g}(hr:∀x∈os,0<=x/\x<(m:Int))(hb:os.length<1000000) :
  ∀n i a1 ls g1 h L ,os.length-i<n->i<=os.length->ls.length<=i->Z h0 h (.sl a1 1 an (ls.map vi) g1::.au b (r.map vi) an::.sl so 1 an (os.map vi) g::L) ->
   Wp (qz n (arr b m) a1 so (os.length:Int) (i:Int)) h λy h'=>∃(l2:ε) (g2:Nat),y.len=l2.length/\(l2=[]↔ls=[]/\∀j q v ,i<=j->os[j]?=some q->gt r q=some v->v<=1)/\Z h0 h' (.sl y 1 an (l2.map vi) g2::.au b (r.map vi) an::.sl so 1 an (os.map vi) g::L):=by
 intro n
 induction n with
 |zero=>intro i a1 ls g1 h L h1;omega
 |succ n ih=>
  intro i a1 ls g1 h L h1 h2 h3 z;have hal:a1.len=ls.length:=by
   have o:nv h a1 1 an (ls.map vi) g1:=z.get 0 rfl;have:=o.1;grind
  rw[DH];unfold u6;by_cases hi:i<os.length
  .rw[By (by grind)];obtain⟨q,hq⟩:=cG hi;have hq2:=hr q (BY hq);obtain⟨v,hv⟩:=cG (l:=r) (i:=q.toNat) (by omega);have hgv:gt r q=some v:=by grind [gt]
   have os1:nv h so 1 an (os.map vi) g:=z.get 2 rfl;refine (nv.BX os1).Jf (by omega) (by simpa using hq) λa cl=>cl.mN rfl rfl ?_;refine EP hq2.1 (by omega) ?_;refine z.ld 1 ?_ rfl (by rw[abt,hv];rfl) rfl;rw[pA h2 (by omega)];by_cases hv1:1<v
   .rw[By (by grind)];refine z.GI 0 (new:=[vi q]) rfl (by decide) rfl (by grind [bJ]) λs' h4 g' hs' z _=>?_;have z:Z h0 h4 (.sl s' 1 an ((ls++[q]).map vi) g'::.au b (r.map vi) an::.sl so 1 an (os.map vi) g::L):=(by grind);refine (ih (i+1) s' (ls++[q]) g' h4 L (by omega) (by omega) (by grind) z).mono λy h5 hy=>?_
    grind
   .rw[AT (by grind)];refine (ih (i+1) a1 ls g1 h L (by omega) (by omega) (by omega) z).mono λy h5 hy=>?_
    grind
  .rw[AT (by grind),ag]
   grind
def Y6 (N:List ao)(root:Int):Prop:=(root::N.flatMap ao.items).Nodup
def ow.way {u w}(r:ow N u w):qS N u w\/KN N w:=by
 induction r with
 |refl=>exact .inl .refl
 |step _ e ih=>
  rcases ih with ih|ih
  .obtain⟨x,hx,hk|hi⟩:=e
   .exact .inr (.key (aE hx) hk)
   .exact .inl (ih.step ⟨x,hx,hi⟩)
  .exact .inr (ih.step e)
def adk (d:Vd N root)(fw:mU N):∃r,agY N root=some r/\∀v,IR N.length v->gt r v=some (((root::N.flatMap ao.items).count v:Nat):Int):=by
 have hlen:(root::N.flatMap ao.items).length<4611686018427387904:=by
  have h1:(N.flatMap ao.items).length<=(N.flatMap refs).length:=by
   have:∀X:List ao,(X.flatMap ao.items).length<=(X.flatMap refs).length:=λX=>by
    induction X with
    |nil=>grind
    |cons x X ih=>grind [List.length_append,refs]
   grind
  have h2:=Om fw.bd.2.2;have h3:=aiM (2*80) fw.len
  grind
 have hin:∀v∈root::N.flatMap ao.items,IR N.length v:=λv hv=>by
  rcases List.mem_cons.1 hv with rfl|hv
  .exact d.rt
  .obtain⟨x,hx,hv⟩:=List.mem_flatMap.1 hv;exact (d.ix x hx).2 v hv
 have h0:List.replicate N.length (0:Int)=CC N.length []:=by
  unfold CC;refine anF λj=>?_
  grind
 refine⟨CC N.length (root::N.flatMap ao.items),?_,λv hv=>U6 hv⟩
 grind [agY,AL,List.length_nil]
def aoY (fw:mU N)(z:Z h0 h L)(G:iK h0 s N)(hg:gc N root=0){n}(hn:Vo+9000<=n) :
  Wp (BJ n (s,root)) h λx h'=>(x=true↔Y6 N root)/\Z h0 h' L:=by
 have d:=fw.vdg hg;have hN:=fw.len;have hz:80000<=YE:=ap0 _ _;have hD:Vo=YE+10000:=rfl;have hK:KF=7000:=rfl;have gv:=fw.gv hg;obtain⟨r,hr,hrv⟩:=adk d fw;unfold BJ;refine z.new λx0 h2 z _=>z.eZ 0 (ls:=[.sl,li]) (x:=(s,root)) ?_;rw[ah];refine (wU z G fw.bd fw.ht (by omega) (fw.gc root)).mono λy h3 hy=>?_;obtain⟨rfl,z⟩:=hy;rw[By (by grind)];refine z.eZ 0 (ls:=[.sl,li]) (x:=(s,root)) ?_;rw[ah];have hlab:Wp (xU n (s,root)) h3 λy h'=>(y.len=0↔Y6 N root)/\Z h0 h' (.au x0 [aA s,vi root] ai::L):=by
  unfold xU;refine z.new λx0 h2 z _=>z.eZ 0 (ls:=[.sl,li]) (x:=(s,root)) ?_;rw[ah];refine (wU z G fw.bd fw.ht (by omega) (fw.gc root)).mono λy h3 hy=>?_;obtain⟨rfl,z⟩:=hy;rw[AT (by grind)];refine z.eZ 0 (ls:=[.sl,li]) (x:=(s,root)) ?_;rw[ah];refine (amT fw z G hg hn).mono λy h4 hy=>?_;obtain⟨os,g,o1,o2,o4,o3,z⟩:=hy;refine z.eZ 1 (ls:=[.sl,li]) (x:=(s,root)) ?_;rw[ah];refine (TF z G fw.bd (by omega) hr).mono λy2 h5 hy=>?_;obtain⟨b,rfl,hrl,z⟩:=hy;have z:=z.add (Fr.refl z.wf) (o:=.sl oz 1 an [] 0) nv.nil (.inl rfl);rw[o3,ah];refine (amY hrl o1 (by omega) n 0 oz [] 0 h5 _ (by omega) (by omega) (by simp) z).mono λy3 h6 hy=>?_;obtain⟨l2,g2,e1,e2,z⟩:=hy;rw[ag];refine⟨?_,z.drop.drop.drop.drop⟩;rw[e1,aq2,e2];unfold Y6;rw[aro];refine⟨λe v=>?_,λe=>⟨rfl,λj q v _ hj hv=>?_⟩⟩
  .by_cases hv:v∈root::N.flatMap ao.items
   .have hir:IR N.length v:=by
     rcases List.mem_cons.1 hv with rfl|hv
     .exact d.rt
     .obtain⟨x,hx,hv⟩:=List.mem_flatMap.1 hv;exact (d.ix x hx).2 v hv
    rcases (gv.Yr v hir).way with w|w
    .grind [List.mem_iff_getElem?]
    .have h1:=d.one v w;have h2:(root::N.flatMap ao.items).count v<=(root::N.flatMap refs).count v:=by
      rw[aox,aox];have:∀X:List ao,(X.flatMap ao.items).count v<=(X.flatMap refs).count v:=λX=>by
       induction X with
       |nil=>grind
       |cons x X ih=>grind [refs]
      grind
     omega
   grind
  .obtain⟨q1,q2⟩:=o1 q (BY hj);rw[hrv q ⟨q1,q2⟩] at hv
   grind
 refine hlab.mono λy h4 hy=>?_;obtain⟨hy,z⟩:=hy;rw[ag];refine⟨?_,z.drop⟩
 grind
end Go.Sh
namespace Go.Sh
open Go Go.Ago Go.Proofs
variable {N N':List ao}{root:Int}{φ:Int->Int}{x x':ao}
section
end
def agZ:Y6 N root↔(∀u,¬IE N u root)/\(∀u x,gt N u=some x->x.items.Nodup)/\∀u w v,IE N u v->IE N w v->u=w:=by
 have e1:(root∉N.flatMap ao.items)↔∀u,¬IE N u root:=by
  refine⟨λh u ⟨x,hx,hv⟩=>h (List.mem_flatMap.2 ⟨x,aE hx,hv⟩),λh hm=>?_⟩;obtain⟨x,hx,hv⟩:=List.mem_flatMap.1 hm;obtain⟨i,hi⟩:=List.mem_iff_getElem?.1 hx;exact h (i:Int) ⟨x,by rw[tO];exact hi,hv⟩
 have e2:(∀x∈N,x.items.Nodup)↔∀u x,gt N u=some x->x.items.Nodup:=by
  refine⟨λh u x hx=>h x (aE hx),λh x hx=>?_⟩;obtain⟨i,hi⟩:=List.mem_iff_getElem?.1 hx;exact h (i:Int) x (by rw[tO];exact hi)
 have e3:(N.Pairwise λa b=>∀v∈a.items,∀w∈b.items,v≠w)↔∀u w v,IE N u v->IE N w v->u=w:=by
  rw[aqQ];refine⟨λh u w v hu hw=>?_,λh i j hi hj hij v hv w hw e=>?_⟩
  .obtain⟨x,hx,hv⟩:=hu;obtain⟨y,hy,hw⟩:=hw;obtain⟨a1,a2⟩:=ax hx;obtain⟨b1,b2⟩:=ax hy
   grind
  .subst e;have:=h (i:Int) (j:Int) v ⟨_,by grind [tO,List.getElem?_eq_getElem],hv⟩ ⟨_,by grind [tO,List.getElem?_eq_getElem],hw⟩;omega
 unfold Y6
 grind
noncomputable def tR (N:List ao)(u:Int):Nat:=open Classical in (List.range N.length).countP λi:Nat=>decide (qS N u (i:Int))
def adl:∀(L:ε),(L.Pairwise λc c'=>∀w,¬(qS N c w/\qS N c' w))->(L.map (tR N)).sum<=open Classical in (List.range N.length).countP λi:Nat=>decide (∃c∈L,qS N c (i:Int))
 |[],_=>by simp
 |c::L,h=>by
  rw[anJ] at h;have ih:=adl L h.2;rw[adZ,aqN];refine ad5 (apX ih _) ?_;unfold tR;refine wh _ λi _=>?_
  grind
def qS.last {u w}(h:qS N u w):u=w\/∃p,qS N u p/\IE N p w:=by
 cases h with
 |refl=>exact .inl rfl
 |step r e=>exact .inr ⟨_,r,e⟩
def qS.one {u w}(e:IE N u w):qS N u w:=qS.refl.step e
def adm (hc:Vp N root)(hu:∀u w v,IE N u v->IE N w v->u=w){i c c'}(hi:qS N root i)(e:IE N i c)(e':IE N i c')(hne:c≠c'){w}(h:qS N c w)(h':qS N c' w):False:=by
 induction h with
 |refl=>
  rcases h'.last with q|⟨p,r,q⟩
  .exact hne q.symm
  .rw[hu p i c q e] at r;exact hc.no (hi.step e') r e'
 |step r ed ih=>
  rename_i p w;rcases h'.last with q|⟨p',r',q⟩
  .subst q;rw[hu p i _ ed e'] at r;exact hc.no (hi.step e) r e
  grind
def adn (hc:Vp N root)(ht:Y6 N root){u}(hu:qS N root u)(hx:gt N u=some x):(x.items.map (tR N)).sum+1<=tR N u:=by
 obtain⟨_,t2,t3⟩:=agZ.1 ht;have ed:∀c∈x.items,IE N u c:=λc hc=>⟨x,hx,hc⟩;have h1:=adl x.items ((t2 u x hx).imp_of_mem λ{c c'} hc1 hc2 hne w q=>adm hc t3 hu (ed c hc1) (ed c' hc2) hne q.1 q.2);have hir:=kF hx;have h2:(List.range N.length).countP (λi=>i==u.toNat)=1:=by
  have:=(anX (n:=N.length)).count (a:=u.toNat);rw[By (List.mem_range.2 (show u.toNat<N.length by have:=hir.1;have:=hir.2;omega))] at this;exact this
 rw[<-h2];refine ad5 (arp h1 _) ?_;unfold tR;refine wh _ λi _=>?_;simp only[ab8,beq_iff_eq];have e:i=u.toNat->(i:Int)=u:=λe=>by have:=hir.1;omega
 refine⟨λ⟨c,q1,q2⟩=>(qS.one (ed c q1)).trans q2,λq=>by rw[e q];exact .refl,λ⟨⟨c,q1,q2⟩,q3⟩=>?_⟩;rw[e q3] at q2;exact hc.no (hu.step (ed c q1)) q2 (ed c q1)
def aoZ u:tR N u<=N.length:=by
 grind [tR,Nat.le_trans,List.countP_le_length]
end Go.Sh
namespace Go.Sh
open Go Go.Ago Go.Proofs
variable {N N':List ao}{root:Int}{φ:Int->Int}{x x':ao}
def D8 {a b}{s t}:Lib.compareBytes (a::s) (b::t)<0↔a.toNat<b.toNat\/a.toNat=b.toNat/\Lib.compareBytes s t<0:=by
 rw[Lib.compareBytes]
 grind [UInt8.lt_iff_toNat_lt]
def Oy:∀a:List UInt8,¬Lib.compareBytes a a<0
 |[]=>by simp[Lib.compareBytes]
 |a::s=>λh=>(D8.1 h).elim (λh=>by omega) λh=>Oy s h.2
def Vr:∀{a b c},Lib.compareBytes a b<0->Lib.compareBytes b c<0->Lib.compareBytes a c<0
 |[],[],_,h1,h2=>h2
 |[],b::t,[],h1,h2=>by simp[Lib.compareBytes] at h2
 |[],b::t,c::r,h1,h2=>by simp[Lib.compareBytes]
 |a::s,[],_,h1,h2=>by simp[Lib.compareBytes] at h1
 |a::s,b::t,[],h1,h2=>by simp[Lib.compareBytes] at h2
 |a::s,b::t,c::r,h1,h2=>by
  rw[D8] at h1 h2⊢;rcases h1 with h1|⟨h1,h3⟩<;>rcases h2 with h2|⟨h2,h4⟩
  .grind
  .grind
  .grind
  .exact .inr ⟨by omega,Vr h3 h4⟩
def ado:∀{a b},a≠b->Lib.compareBytes a b<0\/Lib.compareBytes b a<0
 |[],[],h=>absurd rfl h
 |[],b::t,h=>.inl (by simp[Lib.compareBytes])
 |a::s,[],h=>.inr (by simp[Lib.compareBytes])
 |a::s,b::t,h=>by
  rw[D8,D8];rcases Nat.lt_trichotomy a.toNat b.toNat with c|c|c
  .grind
  .have e:a=b:=UInt8.toNat_inj.1 c;subst e;rcases ado (a:=s) (λe=>h (by rw[e])) with q|q
   .grind
   grind
  grind
def BS m:(iota m).Nodup:=by
 grind [iota,List.nodup_range]
def amZ {ts}(hm:ts.length<50)(hd:ts.Nodup):∃r,SOr ts r/\r.Perm (iota ts.length)/\r.Pairwise λu v=>cvT ts u v<0:=by
 obtain⟨r,⟨h1,h2⟩,h3⟩:=Oq (cvT ts) hm (ye ts.length);have lo:LO (cvT ts) (iota ts.length):=by
  have at':∀u∈iota ts.length,∃t,gt ts u=some t:=λu hu=>MX (rR hu).1 (rR hu).2;refine⟨λu hu v hv w hw p q=>?_,λu hu p=>?_,λu hu v hv hne=>?_,BS _⟩
  .obtain⟨a,ha⟩:=at' u hu;obtain⟨b,hb⟩:=at' v hv;obtain⟨c,hc⟩:=at' w hw;unfold cvT at p q⊢;rw[ha,hb] at p;rw[hb,hc] at q;rw[ha,hc];exact Vr p q
  .obtain⟨a,ha⟩:=at' u hu;unfold cvT at p;rw[ha] at p;exact Oy _ p
  .obtain⟨a,ha⟩:=at' u hu;obtain⟨b,hb⟩:=at' v hv;unfold cvT;rw[ha,hb];refine ado λe=>?_;have e:a=b:=by
    obtain⟨⟨a⟩⟩:=a
    simp_all
   subst e;obtain⟨a1,a2⟩:=ax ha;obtain⟨b1,b2⟩:=ax hb
   grind [aN,List.getElem?_inj]
 refine⟨r,⟨λp hp=>rR (h1.mem_iff.1 hp),by rw[h1.length_eq,gN],λc P h n e1 e2 e3 e4=>h3 c P h n e1 e2 (ad5 (apX (ad5 (by decide:600<=700) (ap0 700 _)) _) e3) e4⟩,h1,h2 lo⟩
def Io {γ:Type}{R}(ha:∀a b,R a b->¬R b a):∀{l l':List γ},l.Perm l'->l.Pairwise R->l'.Pairwise R->l=l'
 |[],l',p,_,_=>p.nil_eq
 |a::l,[],p,_,_=>p.eq_nil
 |a::l,b::l',p,h,h'=>by
  rw[anJ] at h h';by_cases e:a=b
  .subst e;rw[Io ha p.cons_inv h.2 h'.2]
  .have h1:a∈l':=(List.mem_cons.1 (p.mem_iff.1 OF)).resolve_left e;have h2:b∈l:=(List.mem_cons.1 (p.mem_iff.2 OF)).resolve_left (Ne.symm e)
   grind
def YL (N:List ao)(k:Int):Prop:=∃y,gt N k=some y/\y.kind=5
def Q0:∀{ks},(∀k∈ks,∃y,gt N k=some y)->((∀k∈ks,YL N k)/\Ow N ks=some 0)\/(¬(∀k∈ks,YL N k)/\Ow N ks=some 16)
 |[],_=>.inl ⟨(λ_ h=>by cases h),rfl⟩
 |k::ks,h=>by
  obtain⟨y,hy⟩:=h k OF;rw[Ow,hy];simp only;by_cases c:y.kind=5
  .rw[By c];rcases Q0 λk hk=>h k (IN _ hk) with⟨h1,h2⟩|⟨h1,h2⟩
   .refine .inl ⟨λk' hk=>?_,h2⟩;rcases List.mem_cons.1 hk with rfl|hk
    .exact⟨y,hy,c⟩
    grind
   grind
  .rw[AT c];refine .inr ⟨λq=>?_,rfl⟩;obtain⟨z,hz,hk⟩:=q k OF
   grind
def HV (N:List ao)(k:Int):ζ:=match gt N k with
 |some y=>y.text
 |none=>ByteArray.empty
theorem BT {k}{y}(h:gt N k=some y):HV N k=y.text:=by grind [HV]
def ao0 {ks}(h:∀k∈ks,∃y,gt N k=some y):KT N ks (ks.map (HV N)):=by
 refine⟨(aii ..).symm,λi t ht=>?_⟩;rw[abt] at ht;cases hk:ks[i]? with
 |none=>grind
 |some k=>
  rw[hk] at ht;cases ht;obtain⟨y,hy⟩:=h k (BY hk);exact⟨k,y,rfl,hy,(BT hy).symm⟩
def aiQ {y}(h:ji y=some true)(hk:y.kind=5):y.ord=false/\y.keys=[]/\y.items=[]:=by
 grind [ji]
def TH (g:GV N root)(hx:x∈N)(h5:∀k∈x.keys,YL N k):(x.keys.map (HV N)).Nodup:=by
 refine List.pairwise_map.2 ((g.tw x hx).imp_of_mem λ{a b} ha hb hn e=>hn ?_);obtain⟨y,hy,ky⟩:=h5 a ha;obtain⟨z,hz,kz⟩:=h5 b hb;obtain⟨y1,y2,y3⟩:=aiQ (g.fm y (aE hy)) ky;obtain⟨z1,z2,z3⟩:=aiQ (g.fm z (aE hz)) kz;rw[BT hy,BT hz] at e;exact⟨z,y,hz,hy,by omega,e.symm,by grind,by omega,z3,y3⟩
def adp {n}(h:n<1000):(s7 n).length<=3:=by
 rw[s7];split
 .simp
 .rw[s7];split
  .simp
  .rw[s7,By (by omega)];simp
theorem Lo {t}(h:t.size<=101):(zd t).length<=105:=by
 have h1:=adp (n:=t.size) (by omega);have h2:t.data.toList.length=t.size:=rfl
 grind [zd,List.length_append,List.length_cons]
section
variable {f W:Nat}{w:Int->Nat}
end
def sum_add k {w}:∀l:ε,(l.map λp=>k+w p).sum=k*l.length+(l.map w).sum
 |[]=>rfl
 |a::l=>by
  have:=sum_add k (w:=w) l
  grind
def Oz (k:Nat){w}:∀l:ε,(l.map λp=>k*w p).sum=k*(l.map w).sum
 |[]=>rfl
 |a::l=>by
  have:=Oz k (w:=w) l
  grind
end Go.Sh
namespace Go.Sh
open Go Go.Ago Go.Proofs
variable {α β:Type}{h h' h0:aj}{L:List bA}{N:List ao}{Uu s:Sl}{root:Int}{Q:β->aj->Prop}
abbrev GB (b:Nat)(Uu:Sl)(root:Int):bA:=.au b [aA Uu,vi root] ai
def am0 (G:iK h0 Uu N){x0}(hN:N.length<=40) :
  ∀n i p q h ,N.length-i<n->i<=N.length->(∀j x ,j<i->N[j]?=some x->x.text.size<=100/\x.keys.length<=80/\x.items.length<=80)->Z h0 h (GB x0 Uu root::L) ->
   Wp (je n (ak x0) p q (i:Int)) h λy h'=>(∀w,y=.inl w->∀(j:Nat) x ,N[j]?=some x->x.text.size<=100/\x.keys.length<=80/\x.items.length<=80)/\(∀b,y=.inr b->b=false)/\Z h0 h' (GB x0 Uu root::L):=by
 intro n
 induction n with
 |zero=>intro i p q h h1;omega
 |succ n ih=>
  intro i p q h h1 h2 hf z;rw[zW];unfold qI;refine z.ld 0 (x:=Uu) ?_;rw[G.len];by_cases hi:i<N.length
  .rw[By (by grind)];obtain⟨x,hx⟩:=cG hi;refine z.ld 0 (x:=Uu) ?_;refine G.at z (by omega) (by simpa using hx) λa ks is nd ik ii=>nd.eZ ?_;refine z.node λx2 h2' z=>?_;have fin:Wp (AI (Sum.inr false:(Int×Int)⊕Bool)) h2' λy h'=>(∀w,y=.inl w->∀(j:Nat) (x:ao),N[j]?=some x->x.text.size<=100/\x.keys.length<=80/\x.items.length<=80)/\(∀b,y=.inr b->b=false)/\Z h0 h' (GB x0 Uu root::L):=by
    rw[ag]
    grind [z.drop]
   refine z.ld 0 ?_;by_cases c1:(100:Int)<x.text.size
   .rw[By (by grind)];exact fin
   rw[AT (by grind)];refine z.ld 0 (x:=ks) ?_;rw[ik.len];by_cases c2:(80:Int)<x.keys.length
   .rw[By (by grind)];exact fin
   rw[AT (by grind)];refine z.ld 0 (x:=is) ?_;rw[ii.len];by_cases c3:(80:Int)<x.items.length
   .rw[By (by grind)];exact fin
   rw[AT (by grind)];unfold nS;refine z.ld 0 (x:=ks) (z.ld 0 (x:=is) (z.ld 0 ?_));rw[pA (by omega) (by omega)];refine ih (i+1) _ _ h2' (by omega) (by omega) (λj y hj hy=>?_) z.drop
   grind
  .rw[AT (by grind),ag]
   grind
def Q1 (G:iK h0 Uu N)(z:Z h0 h L){n}(hn:50<n):Wp (lY n (Uu,root)) h λy h'=>(y=true->mU N)/\Z h0 h' L:=by
 unfold lY;refine z.new λx0 h1 z _=>?_;refine z.ld 0 (x:=Uu) ?_;rw[G.len];by_cases c1:(40:Int)<N.length
 .rw[By (by grind),ag];exact⟨λh=>(by cases h),z.drop⟩
 rw[AT (by grind),ah];refine (am0 G (by omega) n 0 0 0 h1 (by omega) (by omega) (λj x hj=>by omega) z).mono λy h2 hy=>?_;obtain⟨f1,f2,z⟩:=hy;cases y with
 |inl w=>
  have ft:∀x∈N,x.text.size<=100:=λx hx=>by obtain⟨j,hj⟩:=List.mem_iff_getElem?.1 hx;grind
  have fg:mU N:=⟨by omega,λx hx=>by
   grind [List.mem_iff_getElem?],λx hx=>by grind⟩
  show Wp (if _ then _ else _) h2 _;split
  .rw[ag];exact⟨λ_=>fg,z.drop⟩
  .rw[ag];exact⟨λ_=>fg,z.drop⟩
 |inr b=>
  show Wp (AI b) h2 _;rw[ag];exact⟨λh=>(by grind),z.drop⟩
def ua.out {C}{e}{l}{o}(B:ua h0 h C e l (o::L)):Z h0 h L:=by
 obtain⟨p,t,g,h1,h2,z⟩:=B;exact z.drop.drop.drop
open Classical in
noncomputable def prA (N:List ao)(root:Int)(bs:List UInt8)(c:Int):ζ×Int:=
 if gc N root≠0 then (ofBytes [],3) else if ¬Vp N root then (ofBytes [],14) else if ¬Y6 N root then (ofBytes [],15) else if c≠0 then (ofBytes [],c) else if 65536<bs.length then (ofBytes [],6) else (ofBytes bs,0)
def adq (fw:mU N)(z:Z h0 h L)(G:iK h0 s N){d n}(hn:Vo+9000+d*90+70000<=n){bs}{c}(hp:gc N root=0->Vp N root->Y6 N root->PR N d root 0 bs c)(hb:bs.length<=bJ) :
  Wp (eD n (s,root)) h λy h'=>y=prA N root bs c/\Z h0 h' L:=by
 have hB:=fw.bd;have ht:=fw.ht;have hz:80000<=YE:=ap0 _ _;have hD:Vo=YE+10000:=rfl;have hK:KF=7000:=rfl;unfold eD;generalize hres:prA N root bs c=res;unfold prA at hres;refine z.new λx0 h1' z _=>?_;refine z.eZ 0 (ls:=[.sl,li]) (x:=(s,root)) ?_;rw[ah];refine (wU z G hB ht (by omega) (fw.gc root)).mono λy h2 hy=>?_;obtain⟨rfl,z⟩:=hy;by_cases hg:gc N root=0
 rotate_left
 .rw[By hg] at hres;rw[By (by grind),ag];exact⟨hres,z.drop⟩
 rw[AT (by grind)] at hres;rw[AT (by grind)];refine z.eZ 0 (ls:=[.sl,li]) (x:=(s,root)) ?_;rw[ah];refine (aqm fw z G hg (by omega)).mono λy h3 hy=>?_;obtain⟨hy,z⟩:=hy;by_cases hc:Vp N root
 rotate_left
 .rw[By hc] at hres;rw[By (hy.2 hc),ag];exact⟨hres,z.drop⟩
 rw[AT (by grind)] at hres;rw[AT (λe=>hy.1 e hc)];refine z.eZ 0 (ls:=[.sl,li]) (x:=(s,root)) ?_;rw[ah];refine (aoY fw z G hg (by omega)).mono λy h4 hy=>?_;obtain⟨hy,z⟩:=hy;by_cases hb2:Y6 N root
 rotate_left
 .rw[By hb2] at hres;have e:y=false:=by
   grind
  subst e;rw[By (by rfl),ag];exact⟨hres,z.drop⟩
 rw[AT (by grind)] at hres;obtain rfl:y=true:=hy.2 hb2;rw[AT (by simp)];refine z.eZ 0 (ls:=[.sl,li]) (x:=(s,root)) ?_;refine z.new λx8 h5 z _=>?_;refine z.ld 1 (x:=root) ?_;have z:=z.add (Fr.refl z.wf) (o:=.sl oz 1 gH [] 0) nv.nil (.inl rfl);have P:ua h0 h5 ⟨x8,s,root⟩ 0 [] (.au x0 [aA s,vi root] ai::L):=⟨none,oz,0,.inl rfl,λ_=>rfl,Z.iH (pre:=[_,_,_]) z [1,0,2] (by grind)⟩;rw[ah];refine (agX (C:=⟨x8,s,root⟩) hB.2.1 G hB ht d n root 0 bs c [] h5 _ (hp hg hc hb2) (by omega) (by grind) P).mono λ_ h6 P=>?_;rw[aiO] at P;refine aP (P.er ?_);by_cases hc:c=0
 .subst hc;rw[AT (by simp)];refine aP ?_;rw[ah];refine (agR P).mono λy h7 hy=>?_;obtain⟨rfl,P⟩:=hy;rw[AT (by simp)] at hres;by_cases hl:65536<bs.length
  .rw[By hl] at hres;rw[By (by grind),ag];exact⟨hres,P.out⟩
  .rw[AT hl] at hres;rw[AT (by grind)];refine aP ?_;rw[ah];refine (agS P (by omega)).mono λy h8 hy=>?_;obtain⟨rfl,z⟩:=hy;rw[ag];exact⟨hres,z.drop⟩
 .rw[By (by grind)];refine aP (P.er ?_);rw[By hc] at hres;rw[ag];exact⟨hres,P.out⟩
end Go.Sh
namespace Go.Sh
open Go Go.Ago Go.Proofs
mutual
inductive DT where
 |int (t:ζ)
 |str (t:ζ)
 |list (l:MY)
 |map (l:Js)
inductive MY where
 |nil
 |cons (v:DT) (l:MY)
inductive Js where
 |nil
 |cons (k:ζ) (v:DT) (l:Js)
end
mutual
def enc:DT->List UInt8
 |.int t=>105::(t.data.toList++[101])
 |.str t=>zd t
 |.list l=>108::(GK l++[101])
 |.map l=>100::(Jb l++[101])
def GK:MY->List UInt8
 |.nil=>[]
 |.cons v l=>enc v++GK l
def Jb:Js->List UInt8
 |.nil=>[]
 |.cons k v l=>zd k++(enc v++Jb l)
end
mutual
def ER:DT->Nat
 |.int _=>1
 |.str _=>1
 |.list l=>1+EE l
 |.map l=>1+CG l
def EE:MY->Nat
 |.nil=>0
 |.cons v l=>ER v+EE l
def CG:Js->Nat
 |.nil=>0
 |.cons _ v l=>1+(ER v+CG l)
end
def OA (b:Nat):MY->ε
 |.nil=>[]
 |.cons v l=>(b:Int)::OA (b+ER v) l
def AN (b:Nat):Js->ε
 |.nil=>[]
 |.cons _ v l=>(b:Int)::AN (b+1+ER v) l
def zM (b:Nat):Js->ε
 |.nil=>[]
 |.cons _ v l=>((b+1:Nat):Int)::zM (b+1+ER v) l
mutual
def FR (b:Nat):DT->List ao
 |.int t=>[⟨2,t,false,[],[]⟩]
 |.str t=>[⟨if u8 t then 5 else 6,t,false,[],[]⟩]
 |.list l=>⟨9,ofBytes [],false,[],OA (b+1) l⟩::Jc (b+1) l
 |.map l=>⟨10,ofBytes [],false,AN (b+1) l,zM (b+1) l⟩::Jd (b+1) l
def Jc (b:Nat):MY->List ao
 |.nil=>[]
 |.cons v l=>FR b v++Jc (b+ER v) l
def Jd (b:Nat):Js->List ao
 |.nil=>[]
 |.cons k v l=>⟨5,k,false,[],[]⟩::(FR (b+1) v++Jd (b+1+ER v) l)
end
mutual
theorem zN:∀(b:Nat) (v:DT),(FR b v).length=ER v
 |b,.int t=>rfl
 |b,.str t=>rfl
 |b,.list l=>by simp only[FR,ER,acg];rw[Q2 (b+1) l];omega
 |b,.map l=>by simp only[FR,ER,acg];rw[Q3 (b+1) l];omega
theorem Q2:∀(b:Nat) (l:MY),(Jc b l).length=EE l
 |b,.nil=>rfl
 |b,.cons v l=>by simp only[Jc,EE,acm];rw[zN b v,Q2 (b+ER v) l]
theorem Q3:∀(b:Nat) (l:Js),(Jd b l).length=CG l
 |b,.nil=>rfl
 |b,.cons k v l=>by simp only[Jd,CG,acg,acm];rw[zN (b+1) v,Q3 (b+1+ER v) l];omega
end
def kL:Js->List ζ
 |.nil=>[]
 |.cons k _ l=>k::kL l
mutual
def YM:DT->Prop
 |.int t=>qe t=true
 |.str _=>True
 |.list l=>okL l
 |.map l=>(kL l).Pairwise (λa b=>LC a b=true)/\okD l
def okL:MY->Prop
 |.nil=>True
 |.cons v l=>YM v/\okL l
def okD:Js->Prop
 |.nil=>True
 |.cons _ v l=>YM v/\okD l
end
theorem Q4 (n:Nat):s7 n≠[]:=by
 unfold s7;split<;>simp
def Lp:∀(n:Nat),(s7 n).all pD=true:=by
 intro n
 induction n using Nat.strongRecOn with
 |_ n ih=>
  have d1:∀k,k<10->pD (UInt8.ofNat (48+k))=true:=by
   intro k hk;rcases k with _|_|_|_|_|_|_|_|_|_|k<;>first|rfl|omega
  grind [s7]
def OB (v:DT):1<=ER v:=by cases v<;>simp[ER]
def adt:∀n m:Nat,s7 n=s7 m->n=m:=by
 intro n
 induction n using Nat.strongRecOn with
 |_ n ih=>
  intro m e;have d1:∀k,k<10->(UInt8.ofNat (48+k)).toNat=48+k:=by
   intro k hk;rcases k with _|_|_|_|_|_|_|_|_|_|k<;>first|rfl|omega
  have h2:∀k,¬k<10->s7 k=s7 (k/10)++[UInt8.ofNat (48+k%10)]:=λk hk=>by rw[s7,AT hk]
  have h1:∀k,k<10->s7 k=[]++[UInt8.ofNat (48+k)]:=λk hk=>by rw[s7,By hk];rfl
  have last:∀{a b:List UInt8} {i j:Nat},i<10->j<10->a++[UInt8.ofNat (48+i)]=b++[UInt8.ofNat (48+j)]->a=b/\i=j:=λ{a b i j} hi hj e=>by
   obtain⟨e1,e2⟩:=List.append_inj' e rfl
   grind
  by_cases hn:n<10<;>by_cases hm:m<10
  .grind
  .rw[h1 n hn,h2 m hm] at e
   grind [absurd,Q4]
  .grind
  .rw[h2 n hn,h2 m hm] at e;obtain⟨e1,e2⟩:=last (by omega) (by omega) e;have:=ih (n/10) (by omega) _ e1;omega
def cut {p:UInt8->Bool}{c:UInt8}(hc:p c=false):∀{a b r r':List UInt8},a.all p=true->b.all p=true->a++c::r=b++c::r'->a=b/\r=r'
 |[],[],r,r',_,_,e=>⟨rfl,(amK e).2⟩
 |[],y::b,r,r',_,hb,e=>by
  grind
 |x::a,[],r,r',ha,_,e=>by
  grind
 |x::a,y::b,r,r',ha,hb,e=>by
  obtain⟨e1,e2⟩:=amK e;simp only[aqi,ac5] at ha hb;obtain⟨q1,q2⟩:=cut hc ha.2 hb.2 e2
  grind
def Lq {t t':ζ}{r r':List UInt8}(e:zd t++r=zd t'++r'):t=t'/\r=r':=by
 unfold zd at e;rw[ad3,ad3] at e;obtain⟨e1,e2⟩:=cut (p:=pD) (c:=58) (by decide) (Lp _) (Lp _) e;have hs:t.data.toList.length=t'.data.toList.length:=adt _ _ e1
 grind [List.append_inj,ByteArray.ext,Array.toList_inj]
theorem adu {t t':ζ}(e:zd t=zd t'):t=t':=(Lq (r:=[]) (r':=[]) (by rw[e])).1
def OE (t:ζ):∃c r,zd t=c::r/\pD c=true:=by
 unfold zd;have h1:=Lp t.size;cases h:s7 t.size with
 |nil=>exact absurd h (Q4 _)
 |cons c r=>
  grind
def hdV:DT->UInt8->Prop
 |.int _,c=>c=105
 |.str _,c=>pD c=true
 |.list _,c=>c=108
 |.map _,c=>c=100
def OH:∀v:DT,∃c r,enc v=c::r/\hdV v c
 |.int t=>⟨_,_,rfl,rfl⟩
 |.str t=>OE t
 |.list l=>⟨_,_,rfl,rfl⟩
 |.map l=>⟨_,_,rfl,rfl⟩
def TK {c:UInt8}(h:pD c=true):c≠105/\c≠108/\c≠100/\c≠101:=by
 refine⟨?_,?_,?_,?_⟩<;>(intro e;subst e;exact absurd h (by decide))
theorem Vs {v:DT}{c:UInt8}(h:hdV v c):c≠101:=by
 cases v with
 |int t=>rw[show c=105 from h];decide
 |str t=>exact (TK h).2.2.2
 |list l=>rw[show c=108 from h];decide
 |map l=>rw[show c=100 from h];decide
def kdV:DT->Nat
 |.int _=>0
 |.str _=>1
 |.list _=>2
 |.map _=>3
def am1 {v w:DT}{r r':List UInt8}(e:enc v++r=enc w++r'):kdV v=kdV w:=by
 obtain⟨c,q,e1,h1⟩:=OH v;obtain⟨c',q',e2,h2⟩:=OH w;rw[e1,e2] at e;have:=(amK e).1;subst this;cases v<;>cases w<;>simp only[hdV,kdV] at*<;> first|(have:=TK h1;simp_all;done)|(have:=TK h2;simp_all;done)|grind
def Q5 {t:ζ}(h:qe t=true):t.data.toList.all (λb=>b != 101)=true:=by
 unfold qe at h;simp only[ac5] at h;have hd:∀{T:List UInt8},T.all pD=true->∀b∈T,b≠101:=λhT b hb e=>by
  have:=List.all_eq_true.1 hT b hb;rw[e] at this;exact absurd this (by decide)
 rw[anG];intro b hb;rw[bne_iff_ne];have h2:=h.2;split at h2
 .rename_i hc;cases hl:t.data.toList with
  |nil=>grind
  |cons a l=>
   grind
 .exact hd h2 b hb
mutual
def OJ:∀(v w:DT) (r r':List UInt8),YM v->YM w->enc v++r=enc w++r'->v=w/\r=r'
 |.int t,.int t',r,r',h,h',e=>by
  rw[enc,enc,ad0,ad0,ad3,ad3] at e;obtain⟨e1,e2⟩:=cut (p:=λb=>b != 101) (c:=101) (by decide) (Q5 h) (Q5 h') (amK e).2;exact⟨by grind [ByteArray.ext,Array.toList_inj],e2⟩
 |.str t,.str t',r,r',_,_,e=>by
  obtain⟨e1,e2⟩:=Lq e
  grind
 |.list l,.list l',r,r',h,h',e=>by
  rw[enc,enc,ad0,ad0,ad3,ad3] at e;obtain⟨e1,e2⟩:=Q6 l l' r r' h h' (amK e).2
  grind
 |.map l,.map l',r,r',h,h',e=>by
  rw[enc,enc,ad0,ad0,ad3,ad3] at e;obtain⟨e1,e2⟩:=Q7 l l' r r' h.2 h'.2 (amK e).2
  grind
 |.int t,.str t',r,r',_,_,e | .int t,.list t',r,r',_,_,e | .int t,.map t',r,r',_,_,e | .str t,.int t',r,r',_,_,e | .str t,.list t',r,r',_,_,e | .str t,.map t',r,r',_,_,e
 |.list t,.int t',r,r',_,_,e | .list t,.str t',r,r',_,_,e | .list t,.map t',r,r',_,_,e | .map t,.int t',r,r',_,_,e | .map t,.str t',r,r',_,_,e | .map t,.list t',r,r',_,_,e=>by
  have:=am1 e;simp[kdV] at this
def Q6:∀(l l':MY) (r r':List UInt8),okL l->okL l'->GK l++101::r=GK l'++101::r'->l=l'/\r=r'
 |.nil,.nil,r,r',_,_,e=>⟨rfl,(amK e).2⟩
 |.nil,.cons v l,r,r',_,_,e=>by
  obtain⟨c,q,e1,h1⟩:=OH v
  grind [GK,GK,GK,absurd,List.cons.inj,Vs]
 |.cons v l,.nil,r,r',_,_,e=>by
  obtain⟨c,q,e1,h1⟩:=OH v
  grind [GK,GK,GK,absurd,List.cons.inj,Vs]
 |.cons v l,.cons v' l',r,r',h,h',e=>by
  rw[GK,GK,ad3,ad3] at e;obtain⟨e1,e2⟩:=OJ v v' _ _ h.1 h'.1 e;obtain⟨e3,e4⟩:=Q6 l l' r r' h.2 h'.2 e2
  grind
def Q7:∀(l l':Js) (r r':List UInt8),okD l->okD l'->Jb l++101::r=Jb l'++101::r'->l=l'/\r=r'
 |.nil,.nil,r,r',_,_,e=>⟨rfl,(amK e).2⟩
 |.nil,.cons k v l,r,r',_,_,e=>by
  obtain⟨c,q,e1,h1⟩:=OE k;rw[Jb,Jb,e1] at e;exact absurd (amK e).1.symm (Vs (v:=.str k) h1)
 |.cons k v l,.nil,r,r',_,_,e=>by
  obtain⟨c,q,e1,h1⟩:=OE k;rw[Jb,Jb,e1] at e;exact absurd (amK e).1 (Vs (v:=.str k) h1)
 |.cons k v l,.cons k' v' l',r,r',h,h',e=>by
  rw[Jb,Jb,ad3,ad3,ad3,ad3] at e;obtain⟨e1,e2⟩:=Lq e;obtain⟨e3,e4⟩:=OJ v v' _ _ h.1 h'.1 e2;obtain⟨e5,e6⟩:=Q7 l l' r r' h.2 h'.2 e4
  grind
end
def ag0 {v w:DT}(hv:YM v)(hw:YM w)(e:enc v=enc w):v=w:=(OJ v w [] [] hv hw (by rw[e])).1
end Go.Sh
