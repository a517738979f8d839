
import Derived.Test.YtdbjhobkhjneeaaGreatDoorPac
set_option linter.all false
namespace Go.Sh
open Go Go.Ago Go.Proofs
section
variable {α β:Type}{h h' h0:aj}{L:List bN}{Q:β->aj->Prop}
theorem It {γ:Type}{a b:γ}:(if (!false)=true then a else b)=a:=rfl
theorem Iu {γ:Type}{a b:γ}:(if (!true)=true then a else b)=b:=rfl
theorem adN {γ:Type}{a b:γ}:(if true=true then a else b)=a:=rfl
theorem ajD {γ:Type}{a b:γ}:(if false=true then a else b)=b:=rfl
def Oj.bl {ng}{t}{x}(r:Oj h h' ng t x):x.1=ng/\∃g,h.next<g/\BL h' x.2 (Dm t) g/\(WF h'->g<=h'.next):=by
 obtain⟨r1,bd,c,r2,r3,l⟩:=r;refine⟨r1,bd+1,by omega,?_,λhw=>hw.iL _ _ _ _ _ l.get⟩;have hk:=Ie (xQ t).reverse t.size;have hl:(xQ t).reverse.length=t.size:=by rw[amK,sM]
 rw[r3];refine⟨by grind [Dm,sM],.inr ⟨_,rfl,rfl,_,0,gU,l.get,?_,?_⟩⟩
 .grind [Dm,sM,Nat.min_le_right]
 grind [Dm,sM,List.map_take]
def ue (D E:ε):Nat->Int
 |0=>0
 |k+1=>if D.getD k 0=E.getD k 0 then ue D E k else if D.getD k 0<E.getD k 0 then -1 else 1
def F4 (D E:ε):Int:=if D.length≠E.length then (if D.length<E.length then -1 else 1) else ue D E D.length
def Wb {s t}{D E}{g k}(h1:BL h s D g)(h2:BL h t E k)(hD:D.length<=65536):∀n i ,i<n->i<=D.length->i<=E.length ->
  Wp (nS n s t ((i:Int)-1)) h λr h'=>h'=h/\(r=.inr (ue D E i)\/r=.inl ()/\ue D E i=0):=by
 intro n
 induction n with
 |zero=>intro i hi;omega
 |succ n ih=>
  intro i hi hd he;rw[AU];unfold rZ;cases i with
  |zero=>
   rw[AT (by simp)];exact af.2 ⟨rfl,.inr ⟨rfl,rfl⟩⟩
  |succ i=>
   rw[show (((i+1:Nat):Int)-1)=(i:Int) by omega];obtain⟨d,hd1⟩:=gG (l:=D) (i:=i) (by omega);obtain⟨e,he1⟩:=gG (l:=E) (i:=i) (by omega);rw[By (by simp)];have gd:D.getD i 0=d:=by grind
   have ge:E.getD i 0=e:=by grind
   refine vj.XH h1 (by omega) (by simpa using hd1) λa ca=>?_;refine vj.XH h2 (by omega) (by simpa using he1) λb cb=>?_;refine ca.tn rfl rfl (cb.tn rfl rfl ?_);unfold ue;rw[gd,ge];by_cases hde:d=e
   .rw[AT (by grind),By hde,tC (by omega) (by omega)];exact ih i (by omega) (by omega) (by omega)
   .rw[By (by grind),AT hde];refine vj.XH h1 (by omega) (by simpa using hd1) λa ca=>?_;refine vj.XH h2 (by omega) (by simpa using he1) λb cb=>?_;refine ca.tn rfl rfl (cb.tn rfl rfl ?_);by_cases hlt:d<e
    .rw[By (by grind),By hlt];exact af.2 ⟨rfl,.inl rfl⟩
    .rw[AT (by grind),AT hlt];exact af.2 ⟨rfl,.inl rfl⟩
def S0 {s t}{D E}{g k n}(h1:BL h s D g)(h2:BL h t E k)(hD:D.length<=65536)(hn:D.length<n):Wp (r9 n s t) h λr h'=>r=F4 D E/\h'=h:=by
 unfold r9 F4;have l1:=h1.len;have l2:=h2.len;by_cases hl:D.length=E.length
 .rw[AT (by grind),AT (by grind),l1,tC (by omega) (by omega),ag];refine (Wb h1 h2 hD n D.length hn (aao _) (by omega)).mono λr h' hr=>?_;obtain⟨rfl,hr⟩:=hr;rcases hr with rfl|⟨rfl,e⟩
  .exact af.2 ⟨rfl,rfl⟩
  .rw[e];exact af.2 ⟨rfl,rfl⟩
 .rw[By (by grind),By hl];by_cases hlt:D.length<E.length
  .rw[By (by grind),By hlt];exact af.2 ⟨rfl,rfl⟩
  .rw[AT (by grind),AT hlt];exact af.2 ⟨rfl,rfl⟩
def En (x y:Bool×ε):Int:=if x.1 then (if y.1 then F4 y.2 x.2 else -1) else if y.1 then 1 else F4 x.2 y.2
def Q1 (s t:ζ):Int:=if lg s=false then 0 else if lg t=false then 0 else En ((vI s).1,Dm (vI s).2) ((vI t).1,Dm (vI t).2)
def S5 t:(Dm t).length<=t.size:=by
 grind [Dm,List.length_take,Ie,xQ]
def S6 s:(vI s).2.size<=s.size:=by
 unfold vI;split
 .simp_all
 grind
def ajE {b c n}{x y}{s t}{D E}{g k}(z:Z h0 h [.ar c [.bool y,aC t] aF,.ar b [.bool x,aC s] aF])(h1:BL h s D g)(h2:BL h t E k)(hD:D.length<=65536)(hE:E.length<=65536)(hn:D.length<n/\E.length<n) :
  Wp (sv n (ak b) (ak c)) h λr h'=>r=En (x,D) (y,E)/\Fr (λ_=>False) h0 h':=by
 have J1:x=y->Wp (kc n (ak b) (ak c)) h λr h'=>r=En (x,D) (y,E)/\Fr (λ_=>False) h0 h':=λe=>by
  subst e;unfold kc En;refine z.ld 1 ?_;cases x with
  |true=>
   refine z.ld 0 (z.ld 1 ?_);rw[ag];exact (S0 h2 h1 hE hn.2).mono λr h' hr=>af.2 ⟨hr.1,hr.2▸z.fr⟩
  |false=>
   refine z.ld 1 (z.ld 0 ?_);rw[ag];exact (S0 h1 h2 hD hn.1).mono λr h' hr=>af.2 ⟨hr.1,hr.2▸z.fr⟩
 unfold sv;cases x with
 |true=>
  refine z.ld 1 ?_;rw[adN];refine z.ld 0 ?_;cases y with
  |true=>
   rw[Iu];refine z.ld 1 ?_;rw[Iu];exact J1 rfl
  |false=>rw[It];exact af.2 ⟨rfl,z.fr⟩
 |false=>
  refine z.ld 1 ?_;rw[ajD];refine z.ld 1 ?_;rw[It];refine z.ld 0 ?_;cases y with
  |true=>rw[adN];exact af.2 ⟨rfl,z.fr⟩
  |false=>rw[ajD];exact J1 rfl
def _root_.Go.Ago.Z.VU (z:Z h0 h L){e:μ}{cs:δ}{f:Nat->M β}(q:∀h',Z h0 h' (.ar h.next cs e::L)->Fr (λ_=>False) h h'->Wp (f h.next) h' Q)(hs:cs.all fE=true:=by rfl):Wp (sh (iR none e cs) f) h Q:=by
 rw[ag,CG];have hf:=Fr.new (e:=e) (cs:=cs) z.wf;exact⟨hs,q _ (z.add hf LB.new (.inr (af7 _))) hf⟩
def Iv {s t}{n}(hs:s.size<=65536)(ht:t.size<=65536)(hn:s.size+1<n/\t.size+1<n)(hw:WF h):Wp (xi n s t) h λr h'=>r=Q1 s t/\Fr (λ_=>False) h h':=by
 unfold xi;rw[ag];refine (ve hs hn.1 hw).mono λx h1 hx=>?_;obtain⟨x1,fx,x2⟩:=hx;refine Z.VU (Z.start fx.wf) λh2 z2 _=>?_;refine z2.BA 0 (cs':=[.bool x.1.1,aC x.1.2]) λh3 z3 _=>?_;rw[ag];refine (ve ht hn.2 z3.wf).mono λy h4 hy=>?_;obtain⟨y1,fy,y2⟩:=hy;have z4:=z3.pure fy;refine z4.VU λh5 z5 f5=>?_;refine z5.BA 0 (cs':=[.bool y.1.1,aC y.1.2]) λh6 z6 f6=>?_;have f1:Fr (λ_=>False) h h6:=jj hw fx z6.fr;unfold Q1;rw[x1];cases ex:lg s with
 |false=>rw[It,By rfl];exact af.2 ⟨rfl,f1⟩
 |true=>
 rw[Iu,AT (show ¬(true=false) by decide),y1];cases ey:lg t with
 |false=>rw[It,By rfl];exact af.2 ⟨rfl,f1⟩
 |true=>
 rw[Iu,AT (show ¬(true=false) by decide)];obtain⟨xn,gx,_,bx,_⟩:=(x2 (by grind)).bl;obtain⟨yn,gy,_,by',hgy⟩:=(y2 (by grind)).bl;have hgy:=hgy z4.wf;have bx6:BL h6 x.1.2 (Dm (vI s).2) gx:=bx.fr z6.fr;have by6:BL h6 y.1.2 (Dm (vI t).2) gy:=vj.fr (by'.fr f5) f6 λe=>by omega
 have lx:=(S5 (vI s).2);have ly:=(S5 (vI t).2);have mx:=S6 s;have my:=S6 t;rw[<-xn,<-yn];exact (ajE z6 bx6 by6 (by omega) (by omega) (by omega)).mono λr h' hr=>⟨hr.1,jj hw fx hr.2⟩
end
section
variable {α β:Type}{h h' h0:aj}{L:List bN}{Q:β->aj->Prop}
def S7 {b}{s}{e}{D}{g n i:Nat}(hw:WF h)(bl:BL h s D g):Wp (iY n (b,s,e) (i:Int)) h λr h'=>r=D.getD i 0/\Fr (λ_=>False) h h':=by
 unfold iY;refine (Z.start hw).new λx0 h1 z1 f1=>?_;refine z1.ld 0 (x:=s) ?_;have hl:=bl.len;by_cases hi:i<D.length
 .rw[By (by grind)];refine z1.ld 0 (x:=s) ?_;obtain⟨d,hd⟩:=gG hi;have gd:D.getD i 0=d:=by grind
  refine vj.XH (bl.fr f1) (by omega) (by simpa using hd) λa ca=>?_;refine ca.tn rfl rfl (af.2 ⟨gd.symm,z1.fr⟩)
 .rw[AT (by grind)];have gd:D.getD i 0=0:=by grind
  exact af.2 ⟨gd.symm,z1.fr⟩
abbrev wi (x:Int):Int:=IntKind.i64.wrap x
def Iw (D E:ε)(i:Nat):Int:=wi (wi (D.getD i 0)-wi (E.getD i 0))
def vK (D E:ε):Nat->Nat->Int
 |0,_=>0
 |k+1,i=>if Iw D E i=0 then vK D E k (i+1) else Iw D E i
def GD (D:ε)(e:Int)(D':ε)(e':Int):Int:=
 if D.length=0 then wi (D.length-D'.length) else if D'.length=0 then wi (D.length-D'.length)
 else if wi (wi (wi (D.length+e)-D'.length)-e')=0 then vK D D' (max D.length D'.length) 0 else wi (wi (wi (D.length+e)-D'.length)-e')
abbrev dc (b:Bool)(s:Sl)(e:Int):δ:=[.bool b,aC s,vi e]
def ajF {x0 x1}{b b'}{s s'}{e e'}{D D'}{g g' m:Nat}(hm:m<=65536):∀n k i h ,m-i<n->i<=m->k=m-i->BL h s D g->BL h s' D' g' ->
  Z h0 h (.ar x1 (dc b' s' e') bz::.ar x0 (dc b s e) bz::L) ->
  Wp (iO n (ak x0) (ak x1) (Value.func (Fn.func jO) #[] #[]) (m:Int) (i:Int)) h λr h'=>Fr (λ_=>False) h h'/\(r=.inr (vK D D' k i)\/r=.inl ()/\vK D D' k i=0):=by
 intro n
 induction n with
 |zero=>intro k i h h1;omega
 |succ n ih=>
  intro k i h h1 h2 hk bl bl' z;rw[wx];unfold mz;by_cases hi:i<m
  .rw[By (by grind)];obtain⟨k,rfl⟩:∃k',k=k'+1:=⟨k-1,by omega⟩;refine z.fI 1 (x:=((b,s,e):eC [.bool,.sl,li])) ?_;refine z.fI 0 (x:=((b',s',e'):eC [.bool,.sl,li])) ?_;unfold ni nj;rw[By (by rfl)];refine z.Om 0 (P:=λr=>r=D.getD i 0) ?_ λr h3 hr f3 z3=>?_
   .rw[ag];refine kC rfl ?_;exact S7 z.wf bl
   subst hr;refine z3.call (P:=λr _=>r=D'.getD i 0) ?_ λr h4 hr f4 z4=>?_
   .rw[By (by rfl),ag];refine kC rfl ?_;exact S7 z3.wf (bl'.fr f3)
   subst hr;have f34:=jj z.wf f3 f4;show Wp (if (!decide (Iw D D' i=0))=true then AI (Sum.inr (Iw D D' i)) else _) h4 _;unfold vK;by_cases h0:Iw D D' i=0
   .rw[AT (by grind),By h0,tC (by omega) (by omega)];exact (ih k (i+1) h4 (by omega) (by omega) (by omega) (bl.fr f34) (bl'.fr f34) z4).mono λr h5 hr=>⟨jj z.wf f34 hr.1,hr.2⟩
   .rw[By (by grind),AT h0];exact af.2 ⟨f34,.inl rfl⟩
  .rw[AT (by grind)];obtain rfl:k=0:=by omega
   exact af.2 ⟨Fr.refl z.wf,.inr ⟨rfl,rfl⟩⟩
def ajG {b b'}{s s'}{e e'}{D D'}{g g' n}(hw:WF h)(bl:BL h s D g)(bl':BL h s' D' g')(hD:D.length<=65536)(hD':D'.length<=65536)(hn:D.length<n/\D'.length<n) :
  Wp (np n (b,s,e) (b',s',e')) h λr h'=>r=GD D e D' e'/\Fr (λ_=>False) h h':=by
 unfold np GD;have l1:=bl.len;have l2:=bl'.len;refine (Z.start hw).new λx0 h1 z1 f1=>?_;refine z1.new λx1 h2 z2 f2=>?_;have b2:=(bl.fr f1).fr f2;have b2':=(bl'.fr f1).fr f2;refine z2.ld 1 (x:=s) ?_;by_cases c1:D.length=0
 .rw[By (by grind),By c1];refine z2.ld 1 (x:=s) (z2.ld 0 (x:=s') (af.2 ⟨?_,z2.fr⟩))
  grind
 rw[AT (by grind),AT c1];refine z2.ld 0 (x:=s') ?_;by_cases c2:D'.length=0
 .rw[By (by grind),By c2];refine z2.ld 1 (x:=s) (z2.ld 0 (x:=s') (af.2 ⟨?_,z2.fr⟩))
  grind
 rw[AT (by grind),AT c2];unfold oA;refine z2.ld 1 (x:=s) (z2.ld 1 (x:=e) (z2.ld 0 (x:=s') (z2.ld 0 (x:=e') ?_)));rw[l1,l2];by_cases c3:wi (wi (wi (D.length+e)-D'.length)-e')=0
 .rw[AT (by grind),By c3];refine z2.ld 1 (x:=s) (z2.ld 0 (x:=s') ?_);rw[l1,l2];have em:(if (D.length:Int)<(D'.length:Int) then (D'.length:Int) else (D.length:Int))=((max D.length D'.length:Nat):Int):=by
   grind
  have em':(if decide ((D.length:Int)<(D'.length:Int))=true then (D'.length:Int) else (D.length:Int))=((max D.length D'.length:Nat):Int):=by
   grind
  rw[ag];have key:=ajF (m:=max D.length D'.length) (by omega) n (max D.length D'.length) 0 h2 (by omega) (by omega) (by omega) b2 b2' z2;have fin:∀r h3,(Fr (λ_=>False) h2 h3/\(r=.inr (vK D D' (max D.length D'.length) 0)\/r=.inl ()/\vK D D' (max D.length D'.length) 0=0)) ->
    Wp (dX (λ(_:Unit)=>(AI 0:M Int)) (λx6=>AI x6) r) h3 λr h'=>r=vK D D' (max D.length D'.length) 0/\Fr (λ_=>False) h h':=λr h3 hr=>by
   obtain⟨f3,hr⟩:=hr;rcases hr with rfl|⟨rfl,e⟩
   .exact af.2 ⟨rfl,jj hw z2.fr f3⟩
   .rw[e];exact af.2 ⟨rfl,jj hw z2.fr f3⟩
  first
   |(rw[em];exact key.mono fin)
   |(rw[em'];exact key.mono fin)
 .rw[By (by grind),AT c3];exact af.2 ⟨rfl,z2.fr⟩
def J9 (x:Int):Int:=if x<0 then -1 else if 0<x then 1 else 0
def Q3 (N M:Bool×ε×Int):Int:=
 if N.1≠M.1 then (if N.1 then -1 else 1) else if N.1 then wi (0-J9 (GD N.2.1 N.2.2 M.2.1 M.2.2)) else J9 (GD N.2.1 N.2.2 M.2.1 M.2.2)
theorem adO {x y}{N M}{n}(hw:WF h)(dx:Gz N h x)(dy:Gz M h y)(hn:N.2.1.length<n/\M.2.1.length<n) :
  Wp (qJ n x y) h λr h'=>r=Q3 N M/\Fr (λ_=>False) h h':=by
 obtain⟨x1,x2,x3⟩:=x;obtain⟨y1,y2,y3⟩:=y;obtain⟨N1,N2,N3⟩:=N;obtain⟨M1,M2,M3⟩:=M;obtain⟨rfl,rfl,q1,g1,_,bx⟩:=dx;obtain⟨rfl,rfl,q2,g2,_,by'⟩:=dy;simp at q1 q2 bx by' hn
 unfold qJ Q3;refine (Z.start hw).new λa h1 z1 f1=>?_;refine z1.new λb h2 z2 f2=>?_;have b2:=(bx.fr f1).fr f2;have b2':=(by'.fr f1).fr f2;refine z2.ld 1 (x:=x1) (z2.ld 0 (x:=y1) ?_);by_cases hb:x1=y1
 .subst hb;rw[AT (by grind),AT (by simp)];refine z2.fI 1 (x:=((x1,x2,x3):eC [.bool,.sl,li])) ?_;refine z2.fI 0 (x:=((x1,y2,y3):eC [.bool,.sl,li])) ?_;refine z2.call (P:=λr _=>r=GD N2 x3 M2 y3) (ajG z2.wf b2 b2' q1 q2 hn) λr h3 hr f3 z3=>?_;subst hr;have hs:∀(v:Int) (h:aj) (Q:Int->aj->Prop),Q (J9 v) h->Wp (uo n v) h Q:=λv h Q q=>by
   unfold uo;unfold J9 at q;by_cases c1:v<0
   .rw[By (by grind)];rw[By c1] at q;exact af.2 q
   .rw[AT (by grind)];rw[AT c1] at q;by_cases c2:0<v
    .rw[By (by grind)];rw[By c2] at q;exact af.2 q
    .rw[AT (by grind)];rw[AT c2] at q;exact af.2 q
  rw[ag];refine hs _ _ _ ?_;refine z3.ld 1 (x:=x1) ?_;cases x1 with
  |true=>exact af.2 ⟨rfl,z3.fr⟩
  |false=>exact af.2 ⟨rfl,z3.fr⟩
 .rw[By (by grind),By hb];refine z2.ld 1 (x:=x1) ?_;cases x1 with
  |true=>exact af.2 ⟨rfl,z2.fr⟩
  |false=>exact af.2 ⟨rfl,z2.fr⟩
def Dt (s t:ζ):Int:=if zr s=false then 0 else if zr t=false then 0 else Q3 (qZ s) (qZ t)
def Gz.fr {N}{x}{X}(d:Gz N h x)(f:Fr X h h')(hx:∀g,g<=h.next->X g->g=0):Gz N h' x:=by
 obtain⟨a,b,c,g,hg,bl⟩:=d;exact⟨a,b,c,g,abt hg f.next,vj.fr bl f (hx g hg)⟩
def Z5 {s}{i}{e}:(numOf s i e).2.1.length<=s.size:=by
 have h1:=Ii (s.data.toList.head?==some 45) (xQ (xo s i)) e;have h2:(xQ (xo s i)).length=(xo s i).size:=sM _;have h3:(xo s i).size<=(s.extract 0 i).size:=by
  show (Lib.trimPrefix (s.extract 0 i).data.toList [45]).toArray.size<=_;have h1:=GN (s.extract 0 i).data.toList [45]
  simp_all
 grind [Dn,numOf]
def Kc s:(qZ s).2.1.length<=s.size:=by
 unfold qZ;split
 .exact Z5
 grind
def Ix {s t}{n}(hs:s.size<=65536)(ht:t.size<=65536)(hn:s.size+1<n/\t.size+1<n)(hw:WF h):Wp (xj n s t) h λr h'=>r=Dt s t/\Fr (λ_=>False) h h':=by
 unfold xj;rw[ag];refine (vf hs hn.1 hw).mono λx h1 hx=>?_;obtain⟨x1,fx,x2⟩:=hx;refine Z.VU (Z.start fx.wf) λh2 z2 f2=>?_;refine z2.BA 0 (cs':=[.bool x.1.1,aC x.1.2.1,vi x.1.2.2]) λh3 z3 _=>?_;rw[ag];refine (vf ht hn.2 z3.wf).mono λy h4 hy=>?_;obtain⟨y1,fy,y2⟩:=hy;have z4:=z3.pure fy;refine z4.VU λh5 z5 f5=>?_;refine z5.BA 0 (cs':=[.bool y.1.1,aC y.1.2.1,vi y.1.2.2]) λh6 z6 f6=>?_;have f1:Fr (λ_=>False) h h6:=jj hw fx z6.fr;unfold Dt;rw[x1];cases ex:zr s with
 |false=>rw[It,By rfl];exact af.2 ⟨rfl,f1⟩
 |true=>
 rw[Iu,AT (show ¬(true=false) by decide),y1];cases ey:zr t with
 |false=>rw[It,By rfl];exact af.2 ⟨rfl,f1⟩
 |true=>
 rw[Iu,AT (show ¬(true=false) by decide)];have dx:Gz (qZ s) h6 x.1:=(x2 (by grind)).fr z6.fr λ_ _ x=>x.elim;have dy5:Gz (qZ t) h5 y.1:=(y2 (by grind)).fr f5 λ_ _ x=>x.elim;have dy:Gz (qZ t) h6 y.1:=by
  obtain⟨a,b,c,g,hg,bl⟩:=y2 (by grind);exact⟨a,b,c,g,abt hg (abt f5.next f6.next),vj.fr (vj.fr bl f5 λx=>x.elim) f6 λe=>by omega⟩
 refine z6.fI 1 (x:=((x.1.1,x.1.2.1,x.1.2.2):eC [.bool,.sl,li])) ?_;refine z6.fI 0 (x:=((y.1.1,y.1.2.1,y.1.2.2):eC [.bool,.sl,li])) ?_;rw[ag];have q1:=Kc s;have q2:=Kc t;refine (adO z6.wf dx dy (by omega)).mono λr h7 hr=>af.2 ⟨hr.1,jj hw f1 hr.2⟩
noncomputable def n9 (s:ζ):Nat×Bool:=if hs:s.size<=65536 then (Fp hs).choose else (0,false)
def Eo {s:ζ}{n:Nat}(hs:s.size<=65536)(hw:WF h):Wp (jR n s) h λx h'=>x=n9 s/\Fr (λ_=>False) h h':=by
 unfold n9;rw[dif_pos hs];exact (Fp hs).choose_spec.2 n h hw
noncomputable def OQ (s t:ζ):Int×Bool:=
 if (n9 s).2=false then (0,false) else if (n9 t).2=false then (0,false) else if zH (n9 s).1 (n9 s).1=false then (0,false) else if zH (n9 t).1 (n9 t).1=false then (0,false)
 else if WN (n9 s).1 (n9 t).1 then (-1,true) else if PB (n9 s).1 (n9 t).1 then (1,true) else (0,true)
def JD {s t:ζ}{n:Nat}(hs:s.size<=65536)(ht:t.size<=65536)(hw:WF h):Wp (zh n s t) h λr h'=>r=OQ s t/\Fr (λ_=>False) h h':=by
 unfold zh;rw[ag];refine (Eo hs hw).mono λx h1 hx=>?_;obtain⟨rfl,fx⟩:=hx;rw[ag];refine (Eo ht fx.wf).mono λy h2 hy=>?_;obtain⟨rfl,fy⟩:=hy;have f:=jj hw fx fy;unfold OQ xL;generalize n9 s=x;generalize n9 t=y;obtain⟨x1,x2⟩:=x;obtain⟨y1,y2⟩:=y;cases x2
 .exact af.2 ⟨rfl,f⟩
 cases y2
 .exact af.2 ⟨rfl,f⟩
 simp only[anv,adD,adW];cases zH x1 x1
 .exact af.2 ⟨rfl,f⟩
 simp only[anv,adD,adW];cases zH y1 y1
 .exact af.2 ⟨rfl,f⟩
 simp only[anv,adD,adW];cases WN x1 y1
 .simp only[adD,adW];cases PB x1 y1
  .exact af.2 ⟨rfl,f⟩
  .exact af.2 ⟨rfl,f⟩
 .exact af.2 ⟨rfl,f⟩
noncomputable def vL (kind:Int)(s t:ζ):Int:=
 if mM s t then 0 else if kind=2 then Q1 s t else if kind=3 then Dt s t else if kind=4 then
  (if mM s (ofBytes [110,97,110]) then 1 else if mM t (ofBytes [110,97,110]) then -1 else if (OQ s t).1≠0 then (OQ s t).1 else if mM s (ofBytes [45,48,112,48]) then -1 else 1)
 else Lw s t
def Z6 {kind}{s t}{n}(hs:s.size<=65536)(ht:t.size<=65536)(hn:s.size+1<n/\t.size+1<n)(hw:WF h):Wp (vG n kind s t) h λr h'=>r=vL kind s t/\Fr (λ_=>False) h h':=by
 unfold vG vL;cases mM s t
 .simp only[adD,adW];by_cases k2:kind=2
  .rw[By (by grind),By k2,ag];exact (Iv hs ht hn hw).mono λr h1 hr=>af.2 hr
  rw[AT (by grind),AT k2];by_cases k3:kind=3
  .rw[By (by grind),By k3,ag];exact (Ix hs ht hn hw).mono λr h1 hr=>af.2 hr
  rw[AT (by grind),AT k3];by_cases k4:kind=4
  .rw[By (by grind),By k4];cases mM s (ofBytes [110,97,110])
   .simp only[adD,adW];cases mM t (ofBytes [110,97,110])
    .simp only[adD,adW];rw[ag];refine (JD hs ht hw).mono λr h1 hr=>?_;obtain⟨rfl,f⟩:=hr;by_cases hc:(OQ s t).1=0
     .rw[AT (by grind),AT (show ¬((OQ s t).1≠0) from λx=>x hc)];cases mM s (ofBytes [45,48,112,48])
      .exact af.2 ⟨rfl,f⟩
      .exact af.2 ⟨rfl,f⟩
     .rw[By (by grind),By hc];exact af.2 ⟨rfl,f⟩
    .exact af.2 ⟨rfl,Fr.refl hw⟩
   .exact af.2 ⟨rfl,Fr.refl hw⟩
  rw[AT (by grind),AT k4];unfold strings_Compare mA eh;simp only[ag,af];exact⟨trivial,Fr.refl hw⟩
 .exact af.2 ⟨rfl,Fr.refl hw⟩
end
end Go.Sh
