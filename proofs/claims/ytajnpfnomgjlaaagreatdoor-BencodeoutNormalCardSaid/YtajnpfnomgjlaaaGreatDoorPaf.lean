
import Derived.Test.YtajnpfnomgjlaaaGreatDoorPab
set_option linter.all false
namespace Go.Sh
open Go Go.Ago Go.Proofs
section
variable {α β:Type}{h h' h0:ai}{L:List bG}{Q:β->ai->Prop}
theorem Hd {γ:Type}{a b:γ}:(if (!false)=true then a else b)=a:=rfl
theorem He {γ:Type}{a b:γ}:(if (!true)=true then a else b)=b:=rfl
theorem ahy {γ:Type}{a b:γ}:(if true=true then a else b)=a:=rfl
theorem ahz {γ:Type}{a b:γ}:(if false=true then a else b)=b:=rfl
theorem Nt.bl {ng t x}(r:Nt h h' ng t x):x.1=ng/\∃g,h.next<g/\BL h' x.2 (H4 t) g/\(WF h'->g<=h'.next):=by
 obtain⟨r1,bd,c,r2,r3,l⟩:=r;refine⟨r1,bd+1,by omega,?_,λhw=>hw.eI _ _ _ _ _ l.get⟩;have hk:=GZ (yH t).reverse t.size;have hl:(yH t).reverse.length=t.size:=by rw[aiR,sL]
 rw[r3];refine⟨by grind [H4,sL],.inr ⟨_,rfl,rfl,_,0,jT,l.get,?_,?_⟩⟩
 .grind [H4,sL,Nat.min_le_right]
 grind [H4,sL,List.map_take]
def Hf (D E:ε):Nat->Int
 |0=>0
 |k+1=>if D.getD k 0=E.getD k 0 then Hf D E k else if D.getD k 0<E.getD k 0 then -1 else 1
def RG (D E:ε):Int:=if D.length≠E.length then (if D.length<E.length then -1 else 1) else Hf D E D.length
theorem UD {s t D E g k}(h1:BL h s D g)(h2:BL h t E k)(hD:D.length<=65536):∀n i ,i<n->i<=D.length->i<=E.length ->
  Wp (mc n s t ((i:Int)-1)) h λr h'=>h'=h/\(r=.inr (Hf D E i)\/r=.inl ()/\Hf D E i=0):=by
 intro n
 induction n with
 |zero=>intro i hi;omega
 |succ n ih=>
  intro i hi hd he;rw[zE];unfold rY;cases i with
  |zero=>
   rw[AT (by simp)];exact ag.2 ⟨rfl,.inr ⟨rfl,rfl⟩⟩
  |succ i=>
   rw[show (((i+1:Nat):Int)-1)=(i:Int) by omega];obtain⟨d,hd1⟩:=eY (l:=D) (i:=i) (by omega);obtain⟨e,he1⟩:=eY (l:=E) (i:=i) (by omega);rw[By (by simp)];have gd:D.getD i 0=d:=by grind
   have ge:E.getD i 0=e:=by grind
   refine wq.VZ h1 (by omega) (by simpa using hd1) λa ca=>?_;refine wq.VZ h2 (by omega) (by simpa using he1) λb cb=>?_;refine ca.rD rfl rfl (cb.rD rfl rfl ?_);unfold Hf;rw[gd,ge];by_cases hde:d=e
   .rw[AT (by simpa using hde),By hde,xG (by omega) (by omega)];exact ih i (by omega) (by omega) (by omega)
   .rw[By (by simpa using hde),AT hde];refine wq.VZ h1 (by omega) (by simpa using hd1) λa ca=>?_;refine wq.VZ h2 (by omega) (by simpa using he1) λb cb=>?_;refine ca.rD rfl rfl (cb.rD rfl rfl ?_);by_cases hlt:d<e
    .rw[By (by simpa using hlt),By hlt];exact ag.2 ⟨rfl,.inl rfl⟩
    .rw[AT (by simpa using hlt),AT hlt];exact ag.2 ⟨rfl,.inl rfl⟩
theorem RH {s t D E g k n}(h1:BL h s D g)(h2:BL h t E k)(hD:D.length<=65536)(hn:D.length<n):Wp (rZ n s t) h λr h'=>r=RG D E/\h'=h:=by
 unfold rZ RG;have l1:=h1.len;have l2:=h2.len;by_cases hl:D.length=E.length
 .rw[AT (by rw[l1,l2];simp[hl]),AT (by simpa using hl),l1,xG (by omega) (by omega),ah];refine (UD h1 h2 hD n D.length hn (abi _) (by omega)).mono λr h' hr=>?_;obtain⟨rfl,hr⟩:=hr;rcases hr with rfl|⟨rfl,e⟩
  .exact ag.2 ⟨rfl,rfl⟩
  .rw[e];exact ag.2 ⟨rfl,rfl⟩
 .rw[By (by rw[l1,l2];simp;omega),By hl];by_cases hlt:D.length<E.length
  .rw[By (by grind),By hlt];exact ag.2 ⟨rfl,rfl⟩
  .rw[AT (by grind),AT hlt];exact ag.2 ⟨rfl,rfl⟩
def RI (x y:Bool×ε):Int:=if x.1 then (if y.1 then RG y.2 x.2 else -1) else if y.1 then 1 else RG x.2 y.2
def afX (s t:ζ):Int:=if tk s=false then 0 else if tk t=false then 0 else RI ((y7 s).1,H4 (y7 s).2) ((y7 t).1,H4 (y7 t).2)
theorem RJ t:(H4 t).length<=t.size:=by
 grind [H4,List.length_take,GZ,yH]
theorem RL s:(y7 s).2.size<=s.size:=by
 unfold y7;split
 .exact DU s 1 s.size
 .exact abi _
theorem afY {b c n x y s t D E g k}(z:Z h0 h [.au c [.bool y,aI t] aJ,.au b [.bool x,aI s] aJ])(h1:BL h s D g)(h2:BL h t E k)(hD:D.length<=65536)(hE:E.length<=65536)(hn:D.length<n/\E.length<n) :
  Wp (sr n (al b) (al c)) h λr h'=>r=RI (x,D) (y,E)/\Fr (λ_=>False) h0 h':=by
 have J1:x=y->Wp (lH n (al b) (al c)) h λr h'=>r=RI (x,D) (y,E)/\Fr (λ_=>False) h0 h':=λe=>by
  subst e;unfold lH RI;refine z.ld 1 ?_;cases x with
  |true=>
   refine z.ld 0 (z.ld 1 ?_);rw[ah];exact (RH h2 h1 hE hn.2).mono λr h' hr=>ag.2 ⟨hr.1,hr.2▸z.fr⟩
  |false=>
   refine z.ld 1 (z.ld 0 ?_);rw[ah];exact (RH h1 h2 hD hn.1).mono λr h' hr=>ag.2 ⟨hr.1,hr.2▸z.fr⟩
 unfold sr;cases x with
 |true=>
  refine z.ld 1 ?_;rw[ahy];refine z.ld 0 ?_;cases y with
  |true=>
   rw[He];refine z.ld 1 ?_;rw[He];exact J1 rfl
  |false=>rw[Hd];exact ag.2 ⟨rfl,z.fr⟩
 |false=>
  refine z.ld 1 ?_;rw[ahz];refine z.ld 1 ?_;rw[Hd];refine z.ld 0 ?_;cases y with
  |true=>rw[ahy];exact ag.2 ⟨rfl,z.fr⟩
  |false=>rw[ahz];exact J1 rfl
theorem _root_.Go.Ago.Z.abS (z:Z h0 h L){e:κ}{cs:δ}{f:Nat->M β}(q:∀h',Z h0 h' (.au h.next cs e::L)->Fr (λ_=>False) h h'->Wp (f h.next) h' Q)(hs:cs.all eS=true:=by rfl):Wp (sh (aF none e cs) f) h Q:=by
 rw[ah,Gt];have hf:=Fr.new (e:=e) (cs:=cs) z.wf;exact⟨hs,q _ (z.add hf LB.new (.inr (IT _))) hf⟩
theorem Hg {s t n}(hs:s.size<=65536)(ht:t.size<=65536)(hn:s.size+1<n/\t.size+1<n)(hw:WF h):Wp (wK n s t) h λr h'=>r=afX s t/\Fr (λ_=>False) h h':=by
 unfold wK;rw[ah];refine (uS hs hn.1 hw).mono λx h1 hx=>?_;obtain⟨x1,fx,x2⟩:=hx;refine Z.abS (Z.start fx.wf) λh2 z2 _=>?_;refine z2.za 0 (cs':=[.bool x.1.1,aI x.1.2]) λh3 z3 _=>?_;rw[ah];refine (uS ht hn.2 z3.wf).mono λy h4 hy=>?_;obtain⟨y1,fy,y2⟩:=hy;have z4:=z3.pure fy;refine z4.abS λh5 z5 f5=>?_;refine z5.za 0 (cs':=[.bool y.1.1,aI y.1.2]) λh6 z6 f6=>?_;have f1:Fr (λ_=>False) h h6:=jR hw fx z6.fr;unfold afX;rw[x1];cases ex:tk s with
 |false=>rw[Hd,By rfl];exact ag.2 ⟨rfl,f1⟩
 |true=>
 rw[He,AT (show ¬(true=false) by decide),y1];cases ey:tk t with
 |false=>rw[Hd,By rfl];exact ag.2 ⟨rfl,f1⟩
 |true=>
 rw[He,AT (show ¬(true=false) by decide)];obtain⟨xn,gx,_,bx,_⟩:=(x2 (by rw[x1,ex])).bl;obtain⟨yn,gy,_,by',hgy⟩:=(y2 (by rw[y1,ey])).bl;have hgy:=hgy z4.wf;have bx6:BL h6 x.1.2 (H4 (y7 s).2) gx:=bx.fr z6.fr;have by6:BL h6 y.1.2 (H4 (y7 t).2) gy:=wq.fr (by'.fr f5) f6 λe=>by omega
 have lx:=(RJ (y7 s).2);have ly:=(RJ (y7 t).2);have mx:=RL s;have my:=RL t;rw[<-xn,<-yn];exact (afY z6 bx6 by6 (by omega) (by omega) (by omega)).mono λr h' hr=>⟨hr.1,jR hw fx hr.2⟩
end
section
variable {α β:Type}{h h' h0:ai}{L:List bG}{Q:β->ai->Prop}
theorem RM {b s e D}{g n i:Nat}(hw:WF h)(bl:BL h s D g):Wp (fH n (b,s,e) (i:Int)) h λr h'=>r=D.getD i 0/\Fr (λ_=>False) h h':=by
 unfold fH;refine (Z.start hw).new λx0 h1 z1 f1=>?_;refine z1.ld 0 (x:=s) ?_;have hl:=bl.len;by_cases hi:i<D.length
 .rw[By (by rw[hl];simpa using hi)];refine z1.ld 0 (x:=s) ?_;obtain⟨d,hd⟩:=eY hi;have gd:D.getD i 0=d:=by grind
  refine wq.VZ (bl.fr f1) (by omega) (by simpa using hd) λa ca=>?_;refine ca.rD rfl rfl (ag.2 ⟨gd.symm,z1.fr⟩)
 .rw[AT (by rw[hl];simpa using hi)];have gd:D.getD i 0=0:=by grind
  exact ag.2 ⟨gd.symm,z1.fr⟩
abbrev wi (x:Int):Int:=IntKind.i64.wrap x
def YI (D E:ε)(i:Nat):Int:=wi (wi (D.getD i 0)-wi (E.getD i 0))
def NQ (D E:ε):Nat->Nat->Int
 |0,_=>0
 |k+1,i=>if YI D E i=0 then NQ D E k (i+1) else YI D E i
def YJ (D:ε)(e:Int)(D':ε)(e':Int):Int:=
 if D.length=0 then wi (D.length-D'.length) else if D'.length=0 then wi (D.length-D'.length)
 else if wi (wi (wi (D.length+e)-D'.length)-e')=0 then NQ D D' (max D.length D'.length) 0 else wi (wi (wi (D.length+e)-D'.length)-e')
abbrev dc (b:Bool)(s:Sl)(e:Int):δ:=[.bool b,aI s,vi e]
theorem afZ {x0 x1 b b' s s' e e' D D'}{g g' m:Nat}(hm:m<=65536):∀n k i h ,m-i<n->i<=m->k=m-i->BL h s D g->BL h s' D' g' ->
  Z h0 h (.au x1 (dc b' s' e') bW::.au x0 (dc b s e) bW::L) ->
  Wp (gj n (al x0) (al x1) (Value.func (Fn.func kJ) #[] #[]) (m:Int) (i:Int)) h λr h'=>Fr (λ_=>False) h h'/\(r=.inr (NQ D D' k i)\/r=.inl ()/\NQ D D' k i=0):=by
 intro n
 induction n with
 |zero=>intro k i h h1;omega
 |succ n ih=>
  intro k i h h1 h2 hk bl bl' z;rw[vU];unfold nY;by_cases hi:i<m
  .rw[By (by simpa using hi)];obtain⟨k,rfl⟩:∃k',k=k'+1:=⟨k-1,by omega⟩;refine z.iN 1 (x:=((b,s,e):mD [.bool,.sl,li])) ?_;refine z.iN 0 (x:=((b',s',e'):mD [.bool,.sl,li])) ?_;unfold oR oS;rw[By (by rfl)];refine z.Nw 0 (P:=λr=>r=D.getD i 0) ?_ λr h3 hr f3 z3=>?_
   .rw[ah];refine jn rfl ?_;exact RM z.wf bl
   subst hr;refine z3.call (P:=λr _=>r=D'.getD i 0) ?_ λr h4 hr f4 z4=>?_
   .rw[By (by rfl),ah];refine jn rfl ?_;exact RM z3.wf (bl'.fr f3)
   subst hr;have f34:=jR z.wf f3 f4;show Wp (if (!decide (YI D D' i=0))=true then AI (Sum.inr (YI D D' i)) else _) h4 _;unfold NQ;by_cases h0:YI D D' i=0
   .rw[AT (by simpa using h0),By h0,xG (by omega) (by omega)];exact (ih k (i+1) h4 (by omega) (by omega) (by omega) (bl.fr f34) (bl'.fr f34) z4).mono λr h5 hr=>⟨jR z.wf f34 hr.1,hr.2⟩
   .rw[By (by simpa using h0),AT h0];exact ag.2 ⟨f34,.inl rfl⟩
  .rw[AT (by simpa using hi)];obtain rfl:k=0:=by omega
   exact ag.2 ⟨Fr.refl z.wf,.inr ⟨rfl,rfl⟩⟩
theorem af0 {b b' s s' e e' D D' g g' n}(hw:WF h)(bl:BL h s D g)(bl':BL h s' D' g')(hD:D.length<=65536)(hD':D'.length<=65536)(hn:D.length<n/\D'.length<n) :
  Wp (oT n (b,s,e) (b',s',e')) h λr h'=>r=YJ D e D' e'/\Fr (λ_=>False) h h':=by
 unfold oT YJ;have l1:=bl.len;have l2:=bl'.len;refine (Z.start hw).new λx0 h1 z1 f1=>?_;refine z1.new λx1 h2 z2 f2=>?_;have b2:=(bl.fr f1).fr f2;have b2':=(bl'.fr f1).fr f2;refine z2.ld 1 (x:=s) ?_;by_cases c1:D.length=0
 .rw[By (by rw[l1];simpa using c1),By c1];refine z2.ld 1 (x:=s) (z2.ld 0 (x:=s') (ag.2 ⟨?_,z2.fr⟩));rw[l1,l2]
 rw[AT (by rw[l1];simpa using c1),AT c1];refine z2.ld 0 (x:=s') ?_;by_cases c2:D'.length=0
 .rw[By (by rw[l2];simpa using c2),By c2];refine z2.ld 1 (x:=s) (z2.ld 0 (x:=s') (ag.2 ⟨?_,z2.fr⟩));rw[l1,l2]
 rw[AT (by rw[l2];simpa using c2),AT c2];unfold pA;refine z2.ld 1 (x:=s) (z2.ld 1 (x:=e) (z2.ld 0 (x:=s') (z2.ld 0 (x:=e') ?_)));rw[l1,l2];by_cases c3:wi (wi (wi (D.length+e)-D'.length)-e')=0
 .rw[AT (by simpa using c3),By c3];refine z2.ld 1 (x:=s) (z2.ld 0 (x:=s') ?_);rw[l1,l2];have em:(if (D.length:Int)<(D'.length:Int) then (D'.length:Int) else (D.length:Int))=((max D.length D'.length:Nat):Int):=by
   split<;>omega
  have em':(if decide ((D.length:Int)<(D'.length:Int))=true then (D'.length:Int) else (D.length:Int))=((max D.length D'.length:Nat):Int):=by
   rw[<-em];simp
  rw[ah];have key:=afZ (m:=max D.length D'.length) (by omega) n (max D.length D'.length) 0 h2 (by omega) (by omega) (by omega) b2 b2' z2;have fin:∀r h3,(Fr (λ_=>False) h2 h3/\(r=.inr (NQ D D' (max D.length D'.length) 0)\/r=.inl ()/\NQ D D' (max D.length D'.length) 0=0)) ->
    Wp (cz (λ(_:Unit)=>(AI 0:M Int)) (λx6=>AI x6) r) h3 λr h'=>r=NQ D D' (max D.length D'.length) 0/\Fr (λ_=>False) h h':=λr h3 hr=>by
   obtain⟨f3,hr⟩:=hr;rcases hr with rfl|⟨rfl,e⟩
   .exact ag.2 ⟨rfl,jR hw z2.fr f3⟩
   .rw[e];exact ag.2 ⟨rfl,jR hw z2.fr f3⟩
  first
   |(rw[em];exact key.mono fin)
   |(rw[em'];exact key.mono fin)
 .rw[By (by simpa using c3),AT c3];exact ag.2 ⟨rfl,z2.fr⟩
def sgn (x:Int):Int:=if x<0 then -1 else if 0<x then 1 else 0
def af1 (N M:Bool×ε×Int):Int:=
 if N.1≠M.1 then (if N.1 then -1 else 1) else if N.1 then wi (0-sgn (YJ N.2.1 N.2.2 M.2.1 M.2.2)) else sgn (YJ N.2.1 N.2.2 M.2.1 M.2.2)
theorem abT {x y N M n}(hw:WF h)(dx:Fb N h x)(dy:Fb M h y)(hn:N.2.1.length<n/\M.2.1.length<n) :
  Wp (qJ n x y) h λr h'=>r=af1 N M/\Fr (λ_=>False) h h':=by
 obtain⟨x1,x2,x3⟩:=x;obtain⟨y1,y2,y3⟩:=y;obtain⟨N1,N2,N3⟩:=N;obtain⟨M1,M2,M3⟩:=M;obtain⟨rfl,rfl,q1,g1,_,bx⟩:=dx;obtain⟨rfl,rfl,q2,g2,_,by'⟩:=dy;simp at q1 q2 bx by' hn
 unfold qJ af1;refine (Z.start hw).new λa h1 z1 f1=>?_;refine z1.new λb h2 z2 f2=>?_;have b2:=(bx.fr f1).fr f2;have b2':=(by'.fr f1).fr f2;refine z2.ld 1 (x:=x1) (z2.ld 0 (x:=y1) ?_);by_cases hb:x1=y1
 .subst hb;rw[AT (by cases x1<;>decide),AT (by simp)];refine z2.iN 1 (x:=((x1,x2,x3):mD [.bool,.sl,li])) ?_;refine z2.iN 0 (x:=((x1,y2,y3):mD [.bool,.sl,li])) ?_;refine z2.call (P:=λr _=>r=YJ N2 x3 M2 y3) (af0 z2.wf b2 b2' q1 q2 hn) λr h3 hr f3 z3=>?_;subst hr;have hs:∀(v:Int) (h:ai) (Q:Int->ai->Prop),Q (sgn v) h->Wp (ug n v) h Q:=λv h Q q=>by
   unfold ug;unfold sgn at q;by_cases c1:v<0
   .rw[By (by simpa using c1)];rw[By c1] at q;exact ag.2 q
   .rw[AT (by simpa using c1)];rw[AT c1] at q;by_cases c2:0<v
    .rw[By (by simpa using c2)];rw[By c2] at q;exact ag.2 q
    .rw[AT (by simpa using c2)];rw[AT c2] at q;exact ag.2 q
  rw[ah];refine hs _ _ _ ?_;refine z3.ld 1 (x:=x1) ?_;cases x1 with
  |true=>exact ag.2 ⟨rfl,z3.fr⟩
  |false=>exact ag.2 ⟨rfl,z3.fr⟩
 .rw[By (by grind),By hb];refine z2.ld 1 (x:=x1) ?_;cases x1 with
  |true=>exact ag.2 ⟨rfl,z2.fr⟩
  |false=>exact ag.2 ⟨rfl,z2.fr⟩
def Qd (s t:ζ):Int:=if G4 s=false then 0 else if G4 t=false then 0 else af1 (yy s) (yy t)
theorem Fb.fr {N x X}(d:Fb N h x)(f:Fr X h h')(hx:∀g,g<=h.next->X g->g=0):Fb N h' x:=by
 obtain⟨a,b,c,g,hg,bl⟩:=d;exact⟨a,b,c,g,adr hg f.next,wq.fr bl f (hx g hg)⟩
theorem YK {s i e}:(numOf s i e).2.1.length<=s.size:=by
 have h1:=G5 (s.data.toList.head?==some 45) (yH (yI s i)) e;have h2:(yH (yI s i)).length=(yI s i).size:=sL _;have h3:(yI s i).size<=(s.extract 0 i).size:=by
  show (Lib.trimPrefix (s.extract 0 i).data.toList [45]).toArray.size<=_;have h1:=Lj (s.extract 0 i).data.toList [45]
  simp_all
 grind [DU,numOf]
theorem IG s:(yy s).2.1.length<=s.size:=by
 unfold yy;split
 .exact YK
 .exact agD _
theorem Hh {s t n}(hs:s.size<=65536)(ht:t.size<=65536)(hn:s.size+1<n/\t.size+1<n)(hw:WF h):Wp (wL n s t) h λr h'=>r=Qd s t/\Fr (λ_=>False) h h':=by
 unfold wL;rw[ah];refine (uT hs hn.1 hw).mono λx h1 hx=>?_;obtain⟨x1,fx,x2⟩:=hx;refine Z.abS (Z.start fx.wf) λh2 z2 f2=>?_;refine z2.za 0 (cs':=[.bool x.1.1,aI x.1.2.1,vi x.1.2.2]) λh3 z3 _=>?_;rw[ah];refine (uT ht hn.2 z3.wf).mono λy h4 hy=>?_;obtain⟨y1,fy,y2⟩:=hy;have z4:=z3.pure fy;refine z4.abS λh5 z5 f5=>?_;refine z5.za 0 (cs':=[.bool y.1.1,aI y.1.2.1,vi y.1.2.2]) λh6 z6 f6=>?_;have f1:Fr (λ_=>False) h h6:=jR hw fx z6.fr;unfold Qd;rw[x1];cases ex:G4 s with
 |false=>rw[Hd,By rfl];exact ag.2 ⟨rfl,f1⟩
 |true=>
 rw[He,AT (show ¬(true=false) by decide),y1];cases ey:G4 t with
 |false=>rw[Hd,By rfl];exact ag.2 ⟨rfl,f1⟩
 |true=>
 rw[He,AT (show ¬(true=false) by decide)];have dx:Fb (yy s) h6 x.1:=(x2 (by rw[x1,ex])).fr z6.fr λ_ _ x=>x.elim;have dy5:Fb (yy t) h5 y.1:=(y2 (by rw[y1,ey])).fr f5 λ_ _ x=>x.elim;have dy:Fb (yy t) h6 y.1:=by
  obtain⟨a,b,c,g,hg,bl⟩:=y2 (by rw[y1,ey]);exact⟨a,b,c,g,adr hg (adr f5.next f6.next),wq.fr (wq.fr bl f5 λx=>x.elim) f6 λe=>by omega⟩
 refine z6.iN 1 (x:=((x.1.1,x.1.2.1,x.1.2.2):mD [.bool,.sl,li])) ?_;refine z6.iN 0 (x:=((y.1.1,y.1.2.1,y.1.2.2):mD [.bool,.sl,li])) ?_;rw[ah];have q1:=IG s;have q2:=IG t;refine (abT z6.wf dx dy (by omega)).mono λr h7 hr=>ag.2 ⟨hr.1,jR hw f1 hr.2⟩
noncomputable def CJ (s:ζ):Nat×Bool:=if hs:s.size<=65536 then (DW hs).choose else (0,false)
theorem NR {s n}(hs:s.size<=65536)(hw:WF h):Wp (kR n s) h λx h'=>x=CJ s/\Fr (λ_=>False) h h':=by
 unfold CJ;rw[dif_pos hs];exact (DW hs).choose_spec n h hw
noncomputable def UE (s t:ζ):Int×Bool:=
 if (CJ s).2=false then (0,false) else if (CJ t).2=false then (0,false) else if Hw (CJ s).1 (CJ s).1=false then (0,false) else if Hw (CJ t).1 (CJ t).1=false then (0,false)
 else if ZM (CJ s).1 (CJ t).1 then (-1,true) else if ZA (CJ s).1 (CJ t).1 then (1,true) else (0,true)
theorem H7 {s t n}(hs:s.size<=65536)(ht:t.size<=65536)(hw:WF h):Wp (ym n s t) h λr h'=>r=UE s t/\Fr (λ_=>False) h h':=by
 unfold ym;rw[ah];refine (NR hs hw).mono λx h1 hx=>?_;obtain⟨rfl,fx⟩:=hx;rw[ah];refine (NR ht fx.wf).mono λy h2 hy=>?_;obtain⟨rfl,fy⟩:=hy;have f:=jR hw fx fy;unfold UE w9;generalize CJ s=x;generalize CJ t=y;obtain⟨x1,x2⟩:=x;obtain⟨y1,y2⟩:=y;cases x2
 .exact ag.2 ⟨rfl,f⟩
 cases y2
 .exact ag.2 ⟨rfl,f⟩
 simp only[ajE,afl,ahk];cases Hw x1 x1
 .exact ag.2 ⟨rfl,f⟩
 simp only[ajE,afl,ahk];cases Hw y1 y1
 .exact ag.2 ⟨rfl,f⟩
 simp only[ajE,afl,ahk];cases ZM x1 y1
 .simp only[afl,ahk];cases ZA x1 y1
  .exact ag.2 ⟨rfl,f⟩
  .exact ag.2 ⟨rfl,f⟩
 .exact ag.2 ⟨rfl,f⟩
noncomputable def YL (kind:Int)(s t:ζ):Int:=
 if qE s t then 0 else if kind=2 then afX s t else if kind=3 then Qd s t else if kind=4 then
  (if qE s (ofBytes [110,97,110]) then 1 else if qE t (ofBytes [110,97,110]) then -1 else if (UE s t).1≠0 then (UE s t).1 else if qE s (ofBytes [45,48,112,48]) then -1 else 1)
 else aaD s t
theorem NT {kind s t n}(hs:s.size<=65536)(ht:t.size<=65536)(hn:s.size+1<n/\t.size+1<n)(hw:WF h):Wp (vd n kind s t) h λr h'=>r=YL kind s t/\Fr (λ_=>False) h h':=by
 unfold vd YL;cases qE s t
 .simp only[afl,ahk];by_cases k2:kind=2
  .rw[By (by simpa using k2),By k2,ah];exact (Hg hs ht hn hw).mono λr h1 hr=>ag.2 hr
  rw[AT (by simpa using k2),AT k2];by_cases k3:kind=3
  .rw[By (by simpa using k3),By k3,ah];exact (Hh hs ht hn hw).mono λr h1 hr=>ag.2 hr
  rw[AT (by simpa using k3),AT k3];by_cases k4:kind=4
  .rw[By (by simpa using k4),By k4];cases qE s (ofBytes [110,97,110])
   .simp only[afl,ahk];cases qE t (ofBytes [110,97,110])
    .simp only[afl,ahk];rw[ah];refine (H7 hs ht hw).mono λr h1 hr=>?_;obtain⟨rfl,f⟩:=hr;by_cases hc:(UE s t).1=0
     .rw[AT (by simpa using hc),AT (show ¬((UE s t).1≠0) from λx=>x hc)];cases qE s (ofBytes [45,48,112,48])
      .exact ag.2 ⟨rfl,f⟩
      .exact ag.2 ⟨rfl,f⟩
     .rw[By (by simpa using hc),By hc];exact ag.2 ⟨rfl,f⟩
    .exact ag.2 ⟨rfl,Fr.refl hw⟩
   .exact ag.2 ⟨rfl,Fr.refl hw⟩
  rw[AT (by simpa using k4),AT k4];unfold strings_Compare j6 cT;simp only[ah,ag];exact⟨trivial,Fr.refl hw⟩
 .exact ag.2 ⟨rfl,Fr.refl hw⟩
end
end Go.Sh
