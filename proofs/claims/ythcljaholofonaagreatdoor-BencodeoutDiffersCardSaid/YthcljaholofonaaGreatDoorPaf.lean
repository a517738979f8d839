
import Derived.Test.YthcljaholofonaaGreatDoorPab
set_option linter.all false
namespace Go.Sh
open Go Go.Ago Go.Proofs
section
variable {α β:Type}{h h' h0:aj}{L:List bA}{Q:β->aj->Prop}
theorem Lc {γ:Type}{a b:γ}:(if (!false)=true then a else b)=a:=rfl
theorem Ld {γ:Type}{a b:γ}:(if (!true)=true then a else b)=b:=rfl
theorem aoM {γ:Type}{a b:γ}:(if true=true then a else b)=a:=rfl
theorem aoN {γ:Type}{a b:γ}:(if false=true then a else b)=b:=rfl
def Qu.bl {ng}{t}{x}(r:Qu h h' ng t x):x.1=ng/\∃g,h.next<g/\BL h' x.2 (Me t) g/\(WF h'->g<=h'.next):=by
 obtain⟨r1,bd,c,r2,r3,l⟩:=r;refine⟨r1,bd+1,by omega,?_,λhw=>hw.jU _ _ _ _ _ l.get⟩;have hk:=KI (B3 t).reverse t.size;have hl:(B3 t).reverse.length=t.size:=by rw[apV,u7]
 rw[r3];refine⟨by grind [Me,u7],.inr ⟨_,rfl,rfl,_,0,gH,l.get,?_,?_⟩⟩
 .grind [Me,u7,Nat.min_le_right]
 grind [Me,u7,List.map_take]
def Le (D E:ε):Nat->Int
 |0=>0
 |k+1=>if D.getD k 0=E.getD k 0 then Le D E k else if D.getD k 0<E.getD k 0 then -1 else 1
def Vf (D E:ε):Int:=if D.length≠E.length then (if D.length<E.length then -1 else 1) else Le D E D.length
def Yz {s t}{D E}{g k}(h1:BL h s D g)(h2:BL h t E k)(hD:D.length<=65536):∀n i ,i<n->i<=D.length->i<=E.length ->
  Wp (ql n s t ((i:Int)-1)) h λr h'=>h'=h/\(r=.inr (Le D E i)\/r=.inl ()/\Le D E i=0):=by
 intro n
 induction n with
 |zero=>intro i hi;omega
 |succ n ih=>
  intro i hi hd he;rw[Dl];unfold uC;cases i with
  |zero=>
   rw[AT (by simp)];exact ag.2 ⟨rfl,.inr ⟨rfl,rfl⟩⟩
  |succ i=>
   rw[show (((i+1:Nat):Int)-1)=(i:Int) by omega];obtain⟨d,hd1⟩:=cG (l:=D) (i:=i) (by omega);obtain⟨e,he1⟩:=cG (l:=E) (i:=i) (by omega);rw[By (by simp)];have gd:D.getD i 0=d:=by grind
   have ge:E.getD i 0=e:=by grind
   refine wK.Jf h1 (by omega) (by simpa using hd1) λa ca=>?_;refine wK.Jf h2 (by omega) (by simpa using he1) λb cb=>?_;refine ca.mN rfl rfl (cb.mN rfl rfl ?_);unfold Le;rw[gd,ge];by_cases hde:d=e
   .rw[AT (by grind),By hde,vw (by omega) (by omega)];exact ih i (by omega) (by omega) (by omega)
   .rw[By (by grind),AT hde];refine wK.Jf h1 (by omega) (by simpa using hd1) λa ca=>?_;refine wK.Jf h2 (by omega) (by simpa using he1) λb cb=>?_;refine ca.mN rfl rfl (cb.mN rfl rfl ?_);by_cases hlt:d<e
    .rw[By (by grind),By hlt];exact ag.2 ⟨rfl,.inl rfl⟩
    .rw[AT (by grind),AT hlt];exact ag.2 ⟨rfl,.inl rfl⟩
def Vg {s t}{D E}{g k n}(h1:BL h s D g)(h2:BL h t E k)(hD:D.length<=65536)(hn:D.length<n):Wp (uD n s t) h λr h'=>r=Vf D E/\h'=h:=by
 unfold uD Vf;have l1:=h1.len;have l2:=h2.len;by_cases hl:D.length=E.length
 .rw[AT (by grind),AT (by grind),l1,vw (by omega) (by omega),ah];refine (Yz h1 h2 hD n D.length hn (acX _) (by omega)).mono λr h' hr=>?_;obtain⟨rfl,hr⟩:=hr;rcases hr with rfl|⟨rfl,e⟩
  .exact ag.2 ⟨rfl,rfl⟩
  .rw[e];exact ag.2 ⟨rfl,rfl⟩
 .rw[By (by grind),By hl];by_cases hlt:D.length<E.length
  .rw[By (by grind),By hlt];exact ag.2 ⟨rfl,rfl⟩
  .rw[AT (by grind),AT hlt];exact ag.2 ⟨rfl,rfl⟩
def Vh (x y:Bool×ε):Int:=if x.1 then (if y.1 then Vf y.2 x.2 else -1) else if y.1 then 1 else Vf x.2 y.2
def amA (s t:ζ):Int:=if qe s=false then 0 else if qe t=false then 0 else Vh ((CD s).1,Me (CD s).2) ((CD t).1,Me (CD t).2)
def Vi t:(Me t).length<=t.size:=by
 grind [Me,List.length_take,KI,B3]
def Vj s:(CD s).2.size<=s.size:=by
 unfold CD;split
 .simp_all
 grind
def amB {b c n}{x y}{s t}{D E}{g k}(z:Z h0 h [.au c [.bool y,aA t] aH,.au b [.bool x,aA s] aH])(h1:BL h s D g)(h2:BL h t E k)(hD:D.length<=65536)(hE:E.length<=65536)(hn:D.length<n/\E.length<n) :
  Wp (uO n (ak b) (ak c)) h λr h'=>r=Vh (x,D) (y,E)/\Fr (λ_=>False) h0 h':=by
 have J1:x=y->Wp (mu n (ak b) (ak c)) h λr h'=>r=Vh (x,D) (y,E)/\Fr (λ_=>False) h0 h':=λe=>by
  subst e;unfold mu Vh;refine z.ld 1 ?_;cases x with
  |true=>
   refine z.ld 0 (z.ld 1 ?_);rw[ah];exact (Vg h2 h1 hE hn.2).mono λr h' hr=>ag.2 ⟨hr.1,hr.2▸z.fr⟩
  |false=>
   refine z.ld 1 (z.ld 0 ?_);rw[ah];exact (Vg h1 h2 hD hn.1).mono λr h' hr=>ag.2 ⟨hr.1,hr.2▸z.fr⟩
 unfold uO;cases x with
 |true=>
  refine z.ld 1 ?_;rw[aoM];refine z.ld 0 ?_;cases y with
  |true=>
   rw[Ld];refine z.ld 1 ?_;rw[Ld];exact J1 rfl
  |false=>rw[Lc];exact ag.2 ⟨rfl,z.fr⟩
 |false=>
  refine z.ld 1 ?_;rw[aoN];refine z.ld 1 ?_;rw[Lc];refine z.ld 0 ?_;cases y with
  |true=>rw[aoM];exact ag.2 ⟨rfl,z.fr⟩
  |false=>rw[aoN];exact J1 rfl
def _root_.Go.Ago.Z.Yg (z:Z h0 h L){e:κ}{cs:δ}{f:Nat->M β}(q:∀h',Z h0 h' (.au h.next cs e::L)->Fr (λ_=>False) h h'->Wp (f h.next) h' Q)(hs:cs.all fv=true:=by rfl):Wp (sh (gG none e cs) f) h Q:=by
 rw[ah,Hd];have hf:=Fr.new (e:=e) (cs:=cs) z.wf;exact⟨hs,q _ (z.add hf LB.new (.inr (IT _))) hf⟩
def Lf {s t}{n}(hs:s.size<=65536)(ht:t.size<=65536)(hn:s.size+1<n/\t.size+1<n)(hw:WF h):Wp (zF n s t) h λr h'=>r=amA s t/\Fr (λ_=>False) h h':=by
 unfold zF;rw[ah];refine (xi hs hn.1 hw).mono λx h1 hx=>?_;obtain⟨x1,fx,x2⟩:=hx;refine Z.Yg (Z.start fx.wf) λh2 z2 _=>?_;refine z2.B5 0 (cs':=[.bool x.1.1,aA x.1.2]) λh3 z3 _=>?_;rw[ah];refine (xi ht hn.2 z3.wf).mono λy h4 hy=>?_;obtain⟨y1,fy,y2⟩:=hy;have z4:=z3.pure fy;refine z4.Yg λh5 z5 f5=>?_;refine z5.B5 0 (cs':=[.bool y.1.1,aA y.1.2]) λh6 z6 f6=>?_;have f1:Fr (λ_=>False) h h6:=kp hw fx z6.fr;unfold amA;rw[x1];cases ex:qe s with
 |false=>rw[Lc,By rfl];exact ag.2 ⟨rfl,f1⟩
 |true=>
 rw[Ld,AT (show ¬(true=false) by decide),y1];cases ey:qe t with
 |false=>rw[Lc,By rfl];exact ag.2 ⟨rfl,f1⟩
 |true=>
 rw[Ld,AT (show ¬(true=false) by decide)];obtain⟨xn,gx,_,bx,_⟩:=(x2 (by grind)).bl;obtain⟨yn,gy,_,by',hgy⟩:=(y2 (by grind)).bl;have hgy:=hgy z4.wf;have bx6:BL h6 x.1.2 (Me (CD s).2) gx:=bx.fr z6.fr;have by6:BL h6 y.1.2 (Me (CD t).2) gy:=wK.fr (by'.fr f5) f6 λe=>by omega
 have lx:=(Vi (CD s).2);have ly:=(Vi (CD t).2);have mx:=Vj s;have my:=Vj t;rw[<-xn,<-yn];exact (amB z6 bx6 by6 (by omega) (by omega) (by omega)).mono λr h' hr=>⟨hr.1,kp hw fx hr.2⟩
end
section
variable {α β:Type}{h h' h0:aj}{L:List bA}{Q:β->aj->Prop}
def Vk {b}{s}{e}{D}{g n i:Nat}(hw:WF h)(bl:BL h s D g):Wp (jW n (b,s,e) (i:Int)) h λr h'=>r=D.getD i 0/\Fr (λ_=>False) h h':=by
 unfold jW;refine (Z.start hw).new λx0 h1 z1 f1=>?_;refine z1.ld 0 (x:=s) ?_;have hl:=bl.len;by_cases hi:i<D.length
 .rw[By (by grind)];refine z1.ld 0 (x:=s) ?_;obtain⟨d,hd⟩:=cG hi;have gd:D.getD i 0=d:=by grind
  refine wK.Jf (bl.fr f1) (by omega) (by simpa using hd) λa ca=>?_;refine ca.mN rfl rfl (ag.2 ⟨gd.symm,z1.fr⟩)
 .rw[AT (by grind)];have gd:D.getD i 0=0:=by grind
  exact ag.2 ⟨gd.symm,z1.fr⟩
abbrev wi (x:Int):Int:=IntKind.i64.wrap x
def acO (D E:ε)(i:Nat):Int:=wi (wi (D.getD i 0)-wi (E.getD i 0))
def QP (D E:ε):Nat->Nat->Int
 |0,_=>0
 |k+1,i=>if acO D E i=0 then QP D E k (i+1) else acO D E i
def acP (D:ε)(e:Int)(D':ε)(e':Int):Int:=
 if D.length=0 then wi (D.length-D'.length) else if D'.length=0 then wi (D.length-D'.length)
 else if wi (wi (wi (D.length+e)-D'.length)-e')=0 then QP D D' (max D.length D'.length) 0 else wi (wi (wi (D.length+e)-D'.length)-e')
abbrev dc (b:Bool)(s:Sl)(e:Int):δ:=[.bool b,aA s,vi e]
def amC {x0 x1}{b b'}{s s'}{e e'}{D D'}{g g' m:Nat}(hm:m<=65536):∀n k i h ,m-i<n->i<=m->k=m-i->BL h s D g->BL h s' D' g' ->
  Z h0 h (.au x1 (dc b' s' e') bB::.au x0 (dc b s e) bB::L) ->
  Wp (jr n (ak x0) (ak x1) (Value.func (Fn.func lF) #[] #[]) (m:Int) (i:Int)) h λr h'=>Fr (λ_=>False) h h'/\(r=.inr (QP D D' k i)\/r=.inl ()/\QP D D' k i=0):=by
 intro n
 induction n with
 |zero=>intro k i h h1;omega
 |succ n ih=>
  intro k i h h1 h2 hk bl bl' z;rw[yJ];unfold oY;by_cases hi:i<m
  .rw[By (by grind)];obtain⟨k,rfl⟩:∃k',k=k'+1:=⟨k-1,by omega⟩;refine z.eZ 1 (x:=((b,s,e):pC [.bool,.sl,li])) ?_;refine z.eZ 0 (x:=((b',s',e'):pC [.bool,.sl,li])) ?_;unfold pS pT;rw[By (by rfl)];refine z.Qx 0 (P:=λr=>r=D.getD i 0) ?_ λr h3 hr f3 z3=>?_
   .rw[ah];refine lD rfl ?_;exact Vk z.wf bl
   subst hr;refine z3.call (P:=λr _=>r=D'.getD i 0) ?_ λr h4 hr f4 z4=>?_
   .rw[By (by rfl),ah];refine lD rfl ?_;exact Vk z3.wf (bl'.fr f3)
   subst hr;have f34:=kp z.wf f3 f4;show Wp (if (!decide (acO D D' i=0))=true then AI (Sum.inr (acO D D' i)) else _) h4 _;unfold QP;by_cases h0:acO D D' i=0
   .rw[AT (by grind),By h0,vw (by omega) (by omega)];exact (ih k (i+1) h4 (by omega) (by omega) (by omega) (bl.fr f34) (bl'.fr f34) z4).mono λr h5 hr=>⟨kp z.wf f34 hr.1,hr.2⟩
   .rw[By (by grind),AT h0];exact ag.2 ⟨f34,.inl rfl⟩
  .rw[AT (by grind)];obtain rfl:k=0:=by omega
   exact ag.2 ⟨Fr.refl z.wf,.inr ⟨rfl,rfl⟩⟩
def amD {b b'}{s s'}{e e'}{D D'}{g g' n}(hw:WF h)(bl:BL h s D g)(bl':BL h s' D' g')(hD:D.length<=65536)(hD':D'.length<=65536)(hn:D.length<n/\D'.length<n) :
  Wp (pU n (b,s,e) (b',s',e')) h λr h'=>r=acP D e D' e'/\Fr (λ_=>False) h h':=by
 unfold pU acP;have l1:=bl.len;have l2:=bl'.len;refine (Z.start hw).new λx0 h1 z1 f1=>?_;refine z1.new λx1 h2 z2 f2=>?_;have b2:=(bl.fr f1).fr f2;have b2':=(bl'.fr f1).fr f2;refine z2.ld 1 (x:=s) ?_;by_cases c1:D.length=0
 .rw[By (by grind),By c1];refine z2.ld 1 (x:=s) (z2.ld 0 (x:=s') (ag.2 ⟨?_,z2.fr⟩))
  grind
 rw[AT (by grind),AT c1];refine z2.ld 0 (x:=s') ?_;by_cases c2:D'.length=0
 .rw[By (by grind),By c2];refine z2.ld 1 (x:=s) (z2.ld 0 (x:=s') (ag.2 ⟨?_,z2.fr⟩))
  grind
 rw[AT (by grind),AT c2];unfold qM;refine z2.ld 1 (x:=s) (z2.ld 1 (x:=e) (z2.ld 0 (x:=s') (z2.ld 0 (x:=e') ?_)));rw[l1,l2];by_cases c3:wi (wi (wi (D.length+e)-D'.length)-e')=0
 .rw[AT (by grind),By c3];refine z2.ld 1 (x:=s) (z2.ld 0 (x:=s') ?_);rw[l1,l2];have em:(if (D.length:Int)<(D'.length:Int) then (D'.length:Int) else (D.length:Int))=((max D.length D'.length:Nat):Int):=by
   grind
  have em':(if decide ((D.length:Int)<(D'.length:Int))=true then (D'.length:Int) else (D.length:Int))=((max D.length D'.length:Nat):Int):=by
   grind
  rw[ah];have key:=amC (m:=max D.length D'.length) (by omega) n (max D.length D'.length) 0 h2 (by omega) (by omega) (by omega) b2 b2' z2;have fin:∀r h3,(Fr (λ_=>False) h2 h3/\(r=.inr (QP D D' (max D.length D'.length) 0)\/r=.inl ()/\QP D D' (max D.length D'.length) 0=0)) ->
    Wp (aK (λ(_:Unit)=>(AI 0:M Int)) (λx6=>AI x6) r) h3 λr h'=>r=QP D D' (max D.length D'.length) 0/\Fr (λ_=>False) h h':=λr h3 hr=>by
   obtain⟨f3,hr⟩:=hr;rcases hr with rfl|⟨rfl,e⟩
   .exact ag.2 ⟨rfl,kp hw z2.fr f3⟩
   .rw[e];exact ag.2 ⟨rfl,kp hw z2.fr f3⟩
  first
   |(rw[em];exact key.mono fin)
   |(rw[em'];exact key.mono fin)
 .rw[By (by grind),AT c3];exact ag.2 ⟨rfl,z2.fr⟩
def sgn (x:Int):Int:=if x<0 then -1 else if 0<x then 1 else 0
def amE (N M:Bool×ε×Int):Int:=
 if N.1≠M.1 then (if N.1 then -1 else 1) else if N.1 then wi (0-sgn (acP N.2.1 N.2.2 M.2.1 M.2.2)) else sgn (acP N.2.1 N.2.2 M.2.1 M.2.2)
def agI {x y}{N M}{n}(hw:WF h)(dx:I7 N h x)(dy:I7 M h y)(hn:N.2.1.length<n/\M.2.1.length<n) :
  Wp (tx n x y) h λr h'=>r=amE N M/\Fr (λ_=>False) h h':=by
 obtain⟨x1,x2,x3⟩:=x;obtain⟨y1,y2,y3⟩:=y;obtain⟨N1,N2,N3⟩:=N;obtain⟨M1,M2,M3⟩:=M;obtain⟨rfl,rfl,q1,g1,_,bx⟩:=dx;obtain⟨rfl,rfl,q2,g2,_,by'⟩:=dy;simp at q1 q2 bx by' hn
 unfold tx amE;refine (Z.start hw).new λa h1 z1 f1=>?_;refine z1.new λb h2 z2 f2=>?_;have b2:=(bx.fr f1).fr f2;have b2':=(by'.fr f1).fr f2;refine z2.ld 1 (x:=x1) (z2.ld 0 (x:=y1) ?_);by_cases hb:x1=y1
 .subst hb;rw[AT (by grind),AT (by simp)];refine z2.eZ 1 (x:=((x1,x2,x3):pC [.bool,.sl,li])) ?_;refine z2.eZ 0 (x:=((x1,y2,y3):pC [.bool,.sl,li])) ?_;refine z2.call (P:=λr _=>r=acP N2 x3 M2 y3) (amD z2.wf b2 b2' q1 q2 hn) λr h3 hr f3 z3=>?_;subst hr;have hs:∀(v:Int) (h:aj) (Q:Int->aj->Prop),Q (sgn v) h->Wp (wy n v) h Q:=λv h Q q=>by
   unfold wy;unfold sgn at q;by_cases c1:v<0
   .rw[By (by grind)];rw[By c1] at q;exact ag.2 q
   .rw[AT (by grind)];rw[AT c1] at q;by_cases c2:0<v
    .rw[By (by grind)];rw[By c2] at q;exact ag.2 q
    .rw[AT (by grind)];rw[AT c2] at q;exact ag.2 q
  rw[ah];refine hs _ _ _ ?_;refine z3.ld 1 (x:=x1) ?_;cases x1 with
  |true=>exact ag.2 ⟨rfl,z3.fr⟩
  |false=>exact ag.2 ⟨rfl,z3.fr⟩
 .rw[By (by grind),By hb];refine z2.ld 1 (x:=x1) ?_;cases x1 with
  |true=>exact ag.2 ⟨rfl,z2.fr⟩
  |false=>exact ag.2 ⟨rfl,z2.fr⟩
def TA (s t:ζ):Int:=if KL s=false then 0 else if KL t=false then 0 else amE (BM s) (BM t)
def I7.fr {N}{x}{X}(d:I7 N h x)(f:Fr X h h')(hx:∀g,g<=h.next->X g->g=0):I7 N h' x:=by
 obtain⟨a,b,c,g,hg,bl⟩:=d;exact⟨a,b,c,g,ad5 hg f.next,wK.fr bl f (hx g hg)⟩
def acQ {s}{i}{e}:(numOf s i e).2.1.length<=s.size:=by
 have h1:=KO (s.data.toList.head?==some 45) (B3 (B4 s i)) e;have h2:(B3 (B4 s i)).length=(B4 s i).size:=u7 _;have h3:(B4 s i).size<=(s.extract 0 i).size:=by
  show (Lib.trimPrefix (s.extract 0 i).data.toList [45]).toArray.size<=_;have h1:=Oe (s.extract 0 i).data.toList [45]
  simp_all
 grind [KP,numOf]
def MU s:(BM s).2.1.length<=s.size:=by
 unfold BM;split
 .exact acQ
 grind
def Lg {s t}{n}(hs:s.size<=65536)(ht:t.size<=65536)(hn:s.size+1<n/\t.size+1<n)(hw:WF h):Wp (zG n s t) h λr h'=>r=TA s t/\Fr (λ_=>False) h h':=by
 unfold zG;rw[ah];refine (xj hs hn.1 hw).mono λx h1 hx=>?_;obtain⟨x1,fx,x2⟩:=hx;refine Z.Yg (Z.start fx.wf) λh2 z2 f2=>?_;refine z2.B5 0 (cs':=[.bool x.1.1,aA x.1.2.1,vi x.1.2.2]) λh3 z3 _=>?_;rw[ah];refine (xj ht hn.2 z3.wf).mono λy h4 hy=>?_;obtain⟨y1,fy,y2⟩:=hy;have z4:=z3.pure fy;refine z4.Yg λh5 z5 f5=>?_;refine z5.B5 0 (cs':=[.bool y.1.1,aA y.1.2.1,vi y.1.2.2]) λh6 z6 f6=>?_;have f1:Fr (λ_=>False) h h6:=kp hw fx z6.fr;unfold TA;rw[x1];cases ex:KL s with
 |false=>rw[Lc,By rfl];exact ag.2 ⟨rfl,f1⟩
 |true=>
 rw[Ld,AT (show ¬(true=false) by decide),y1];cases ey:KL t with
 |false=>rw[Lc,By rfl];exact ag.2 ⟨rfl,f1⟩
 |true=>
 rw[Ld,AT (show ¬(true=false) by decide)];have dx:I7 (BM s) h6 x.1:=(x2 (by grind)).fr z6.fr λ_ _ x=>x.elim;have dy5:I7 (BM t) h5 y.1:=(y2 (by grind)).fr f5 λ_ _ x=>x.elim;have dy:I7 (BM t) h6 y.1:=by
  obtain⟨a,b,c,g,hg,bl⟩:=y2 (by grind);exact⟨a,b,c,g,ad5 hg (ad5 f5.next f6.next),wK.fr (wK.fr bl f5 λx=>x.elim) f6 λe=>by omega⟩
 refine z6.eZ 1 (x:=((x.1.1,x.1.2.1,x.1.2.2):pC [.bool,.sl,li])) ?_;refine z6.eZ 0 (x:=((y.1.1,y.1.2.1,y.1.2.2):pC [.bool,.sl,li])) ?_;rw[ah];have q1:=MU s;have q2:=MU t;refine (agI z6.wf dx dy (by omega)).mono λr h7 hr=>ag.2 ⟨hr.1,kp hw f1 hr.2⟩
noncomputable def GF (s:ζ):Nat×Bool:=if hs:s.size<=65536 then (HJ hs).choose else (0,false)
def QQ {s:ζ}{n:Nat}(hs:s.size<=65536)(hw:WF h):Wp (p6 n s) h λx h'=>x=GF s/\Fr (λ_=>False) h h':=by
 unfold GF;rw[dif_pos hs];exact (HJ hs).choose_spec n h hw
noncomputable def YA (s t:ζ):Int×Bool:=
 if (GF s).2=false then (0,false) else if (GF t).2=false then (0,false) else if LK (GF s).1 (GF s).1=false then (0,false) else if LK (GF t).1 (GF t).1=false then (0,false)
 else if fLt (GF s).1 (GF t).1 then (-1,true) else if fGt (GF s).1 (GF t).1 then (1,true) else (0,true)
def Mi {s t:ζ}{n:Nat}(hs:s.size<=65536)(ht:t.size<=65536)(hw:WF h):Wp (BB n s t) h λr h'=>r=YA s t/\Fr (λ_=>False) h h':=by
 unfold BB;rw[ah];refine (QQ hs hw).mono λx h1 hx=>?_;obtain⟨rfl,fx⟩:=hx;rw[ah];refine (QQ ht fx.wf).mono λy h2 hy=>?_;obtain⟨rfl,fy⟩:=hy;have f:=kp hw fx fy;unfold YA Aj;generalize GF s=x;generalize GF t=y;obtain⟨x1,x2⟩:=x;obtain⟨y1,y2⟩:=y;cases x2
 .exact ag.2 ⟨rfl,f⟩
 cases y2
 .exact ag.2 ⟨rfl,f⟩
 simp only[aqL,aht,anw];cases LK x1 x1
 .exact ag.2 ⟨rfl,f⟩
 simp only[aqL,aht,anw];cases LK y1 y1
 .exact ag.2 ⟨rfl,f⟩
 simp only[aqL,aht,anw];cases fLt x1 y1
 .simp only[aht,anw];cases fGt x1 y1
  .exact ag.2 ⟨rfl,f⟩
  .exact ag.2 ⟨rfl,f⟩
 .exact ag.2 ⟨rfl,f⟩
noncomputable def acR (kind:Int)(s t:ζ):Int:=
 if oG s t then 0 else if kind=2 then amA s t else if kind=3 then TA s t else if kind=4 then
  (if oG s (ofBytes [110,97,110]) then 1 else if oG t (ofBytes [110,97,110]) then -1 else if (YA s t).1≠0 then (YA s t).1 else if oG s (ofBytes [45,48,112,48]) then -1 else 1)
 else aeR s t
def QR {kind}{s t}{n}(hs:s.size<=65536)(ht:t.size<=65536)(hn:s.size+1<n/\t.size+1<n)(hw:WF h):Wp (xQ n kind s t) h λr h'=>r=acR kind s t/\Fr (λ_=>False) h h':=by
 unfold xQ acR;cases oG s t
 .simp only[aht,anw];by_cases k2:kind=2
  .rw[By (by grind),By k2,ah];exact (Lf hs ht hn hw).mono λr h1 hr=>ag.2 hr
  rw[AT (by grind),AT k2];by_cases k3:kind=3
  .rw[By (by grind),By k3,ah];exact (Lg hs ht hn hw).mono λr h1 hr=>ag.2 hr
  rw[AT (by grind),AT k3];by_cases k4:kind=4
  .rw[By (by grind),By k4];cases oG s (ofBytes [110,97,110])
   .simp only[aht,anw];cases oG t (ofBytes [110,97,110])
    .simp only[aht,anw];rw[ah];refine (Mi hs ht hw).mono λr h1 hr=>?_;obtain⟨rfl,f⟩:=hr;by_cases hc:(YA s t).1=0
     .rw[AT (by grind),AT (show ¬((YA s t).1≠0) from λx=>x hc)];cases oG s (ofBytes [45,48,112,48])
      .exact ag.2 ⟨rfl,f⟩
      .exact ag.2 ⟨rfl,f⟩
     .rw[By (by grind),By hc];exact ag.2 ⟨rfl,f⟩
    .exact ag.2 ⟨rfl,Fr.refl hw⟩
   .exact ag.2 ⟨rfl,Fr.refl hw⟩
  rw[AT (by grind),AT k4];unfold strings_Compare kC cU;simp only[ah,ag];exact⟨trivial,Fr.refl hw⟩
 .exact ag.2 ⟨rfl,Fr.refl hw⟩
end
end Go.Sh
