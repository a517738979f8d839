
import Derived.Test.YtpojbnjkkkiccaaGreatDoorPac
set_option linter.all false
namespace Go.Sh
open Go Go.Ago Go.Proofs
section
variable {α β:Type}{h h' h0:ai}{L:List aZ}{Q:β->ai->Prop}
theorem Kx {γ:Type}{a b:γ}:(if (!false)=true then a else b)=a:=rfl
theorem Ky {γ:Type}{a b:γ}:(if (!true)=true then a else b)=b:=rfl
theorem am2 {γ:Type}{a b:γ}:(if true=true then a else b)=a:=rfl
theorem am3 {γ:Type}{a b:γ}:(if false=true then a else b)=b:=rfl
theorem P9.bl {ng}{t}{x}(r:P9 h h' ng t x):x.1=ng/\∃g,h.next<g/\BL h' x.2 (EW t) g/\(WF h'->g<=h'.next):=by
 obtain⟨r1,bd,c,r2,r3,l⟩:=r;refine⟨r1,bd+1,by omega,?_,λhw=>hw.jo _ _ _ _ _ l.get⟩;have hk:=Ko (yV t).reverse t.size;have hl:(yV t).reverse.length=t.size:=by rw[aon,tR]
 rw[r3];refine⟨by grind [EW,tR],.inr ⟨_,rfl,rfl,_,0,jA,l.get,?_,?_⟩⟩
 .grind [EW,tR,Nat.min_le_right]
 grind [EW,tR,List.map_take]
def va (D E:ε):Nat->Int
 |0=>0
 |k+1=>if D.getD k 0=E.getD k 0 then va D E k else if D.getD k 0<E.getD k 0 then -1 else 1
def H2 (D E:ε):Int:=if D.length≠E.length then (if D.length<E.length then -1 else 1) else va D E D.length
theorem XN {s t}{D E}{g k}(h1:BL h s D g)(h2:BL h t E k)(hD:D.length<=65536):∀n i ,i<n->i<=D.length->i<=E.length ->
  Wp (oF n s t ((i:Int)-1)) h λr h'=>h'=h/\(r=.inr (va D E i)\/r=.inl ()/\va D E i=0):=by
 intro n
 induction n with
 |zero=>intro i hi;omega
 |succ n ih=>
  intro i hi hd he;rw[BX];unfold tj;cases i with
  |zero=>
   rw[AT (by simp)];exact ag.2 ⟨rfl,.inr ⟨rfl,rfl⟩⟩
  |succ i=>
   rw[show (((i+1:Nat):Int)-1)=(i:Int) by omega];obtain⟨d,hd1⟩:=eC (l:=D) (i:=i) (by omega);obtain⟨e,he1⟩:=eC (l:=E) (i:=i) (by omega);rw[By (by simp)];have gd:D.getD i 0=d:=by grind
   have ge:E.getD i 0=e:=by grind
   refine vR.Ys h1 (by omega) (by simpa using hd1) λa ca=>?_;refine vR.Ys h2 (by omega) (by simpa using he1) λb cb=>?_;refine ca.sL rfl rfl (cb.sL rfl rfl ?_);unfold va;rw[gd,ge];by_cases hde:d=e
   .rw[AT (by grind),By hde,xQ (by omega) (by omega)];exact ih i (by omega) (by omega) (by omega)
   .rw[By (by grind),AT hde];refine vR.Ys h1 (by omega) (by simpa using hd1) λa ca=>?_;refine vR.Ys h2 (by omega) (by simpa using he1) λb cb=>?_;refine ca.sL rfl rfl (cb.sL rfl rfl ?_);by_cases hlt:d<e
    .rw[By (by grind),By hlt];exact ag.2 ⟨rfl,.inl rfl⟩
    .rw[AT (by grind),AT hlt];exact ag.2 ⟨rfl,.inl rfl⟩
theorem UY {s t}{D E}{g k n}(h1:BL h s D g)(h2:BL h t E k)(hD:D.length<=65536)(hn:D.length<n):Wp (tk n s t) h λr h'=>r=H2 D E/\h'=h:=by
 unfold tk H2;have l1:=h1.len;have l2:=h2.len;by_cases hl:D.length=E.length
 .rw[AT (by grind),AT (by grind),l1,xQ (by omega) (by omega),ah];refine (XN h1 h2 hD n D.length hn (abi _) (by omega)).mono λr h' hr=>?_;obtain⟨rfl,hr⟩:=hr;rcases hr with rfl|⟨rfl,e⟩
  .exact ag.2 ⟨rfl,rfl⟩
  .rw[e];exact ag.2 ⟨rfl,rfl⟩
 .rw[By (by grind),By hl];by_cases hlt:D.length<E.length
  .rw[By (by grind),By hlt];exact ag.2 ⟨rfl,rfl⟩
  .rw[AT (by grind),AT hlt];exact ag.2 ⟨rfl,rfl⟩
def Gd (x y:Bool×ε):Int:=if x.1 then (if y.1 then H2 y.2 x.2 else -1) else if y.1 then 1 else H2 x.2 y.2
def Tc (s t:ζ):Int:=if nC s=false then 0 else if nC t=false then 0 else Gd ((wN s).1,EW (wN s).2) ((wN t).1,EW (wN t).2)
theorem UZ t:(EW t).length<=t.size:=by
 grind [EW,List.length_take,Ko,yV]
theorem U0 s:(wN s).2.size<=s.size:=by
 unfold wN;split
 .simp_all
 grind
def akO {b c n}{x y}{s t}{D E}{g k}(z:Z h0 h [.ar c [.bool y,aA t] aD,.ar b [.bool x,aA s] aD])(h1:BL h s D g)(h2:BL h t E k)(hD:D.length<=65536)(hE:E.length<=65536)(hn:D.length<n/\E.length<n) :
  Wp (tD n (ak b) (ak c)) h λr h'=>r=Gd (x,D) (y,E)/\Fr (λ_=>False) h0 h':=by
 have J1:x=y->Wp (kE n (ak b) (ak c)) h λr h'=>r=Gd (x,D) (y,E)/\Fr (λ_=>False) h0 h':=λe=>by
  subst e;unfold kE Gd;refine z.ld 1 ?_;cases x with
  |true=>
   refine z.ld 0 (z.ld 1 ?_);rw[ah];exact (UY h2 h1 hE hn.2).mono λr h' hr=>ag.2 ⟨hr.1,hr.2▸z.fr⟩
  |false=>
   refine z.ld 1 (z.ld 0 ?_);rw[ah];exact (UY h1 h2 hD hn.1).mono λr h' hr=>ag.2 ⟨hr.1,hr.2▸z.fr⟩
 unfold tD;cases x with
 |true=>
  refine z.ld 1 ?_;rw[am2];refine z.ld 0 ?_;cases y with
  |true=>
   rw[Ky];refine z.ld 1 ?_;rw[Ky];exact J1 rfl
  |false=>rw[Kx];exact ag.2 ⟨rfl,z.fr⟩
 |false=>
  refine z.ld 1 ?_;rw[am3];refine z.ld 1 ?_;rw[Kx];refine z.ld 0 ?_;cases y with
  |true=>rw[am2];exact ag.2 ⟨rfl,z.fr⟩
  |false=>rw[am3];exact J1 rfl
def _root_.Go.Ago.Z.XG (z:Z h0 h L){e:κ}{cs:δ}{f:Nat->M β}(q:∀h',Z h0 h' (.ar h.next cs e::L)->Fr (λ_=>False) h h'->Wp (f h.next) h' Q)(hs:cs.all fk=true:=by rfl):Wp (sh (iI none e cs) f) h Q:=by
 rw[ah,JP];have hf:=Fr.new (e:=e) (cs:=cs) z.wf;exact⟨hs,q _ (z.add hf LB.new (.inr (ais _))) hf⟩
theorem Kz {s t}{n}(hs:s.size<=65536)(ht:t.size<=65536)(hn:s.size+1<n/\t.size+1<n)(hw:WF h):Wp (yq n s t) h λr h'=>r=Tc s t/\Fr (λ_=>False) h h':=by
 unfold yq;rw[ah];refine (wg hs hn.1 hw).mono λx h1 hx=>?_;obtain⟨x1,fx,x2⟩:=hx;refine Z.XG (Z.start fx.wf) λh2 z2 _=>?_;refine z2.yW 0 (cs':=[.bool x.1.1,aA x.1.2]) λh3 z3 _=>?_;rw[ah];refine (wg ht hn.2 z3.wf).mono λy h4 hy=>?_;obtain⟨y1,fy,y2⟩:=hy;have z4:=z3.pure fy;refine z4.XG λh5 z5 f5=>?_;refine z5.yW 0 (cs':=[.bool y.1.1,aA y.1.2]) λh6 z6 f6=>?_;have f1:Fr (λ_=>False) h h6:=jb hw fx z6.fr;unfold Tc;rw[x1];cases ex:nC s with
 |false=>rw[Kx,By rfl];exact ag.2 ⟨rfl,f1⟩
 |true=>
 rw[Ky,AT (show ¬(true=false) by decide),y1];cases ey:nC t with
 |false=>rw[Kx,By rfl];exact ag.2 ⟨rfl,f1⟩
 |true=>
 rw[Ky,AT (show ¬(true=false) by decide)];obtain⟨xn,gx,_,bx,_⟩:=(x2 (by grind)).bl;obtain⟨yn,gy,_,by',hgy⟩:=(y2 (by grind)).bl;have hgy:=hgy z4.wf;have bx6:BL h6 x.1.2 (EW (wN s).2) gx:=bx.fr z6.fr;have by6:BL h6 y.1.2 (EW (wN t).2) gy:=vR.fr (by'.fr f5) f6 λe=>by omega
 have lx:=(UZ (wN s).2);have ly:=(UZ (wN t).2);have mx:=U0 s;have my:=U0 t;rw[<-xn,<-yn];exact (akO z6 bx6 by6 (by omega) (by omega) (by omega)).mono λr h' hr=>⟨hr.1,jb hw fx hr.2⟩
end
section
variable {α β:Type}{h h' h0:ai}{L:List aZ}{Q:β->ai->Prop}
theorem U1 {b}{s}{e}{D}{g n i:Nat}(hw:WF h)(bl:BL h s D g):Wp (iO n (b,s,e) (i:Int)) h λr h'=>r=D.getD i 0/\Fr (λ_=>False) h h':=by
 unfold iO;refine (Z.start hw).new λx0 h1 z1 f1=>?_;refine z1.ld 0 (x:=s) ?_;have hl:=bl.len;by_cases hi:i<D.length
 .rw[By (by grind)];refine z1.ld 0 (x:=s) ?_;obtain⟨d,hd⟩:=eC hi;have gd:D.getD i 0=d:=by grind
  refine vR.Ys (bl.fr f1) (by omega) (by simpa using hd) λa ca=>?_;refine ca.sL rfl rfl (ag.2 ⟨gd.symm,z1.fr⟩)
 .rw[AT (by grind)];have gd:D.getD i 0=0:=by grind
  exact ag.2 ⟨gd.symm,z1.fr⟩
abbrev wi (x:Int):Int:=IntKind.i64.wrap x
def KA (D E:ε)(i:Nat):Int:=wi (wi (D.getD i 0)-wi (E.getD i 0))
def wO (D E:ε):Nat->Nat->Int
 |0,_=>0
 |k+1,i=>if KA D E i=0 then wO D E k (i+1) else KA D E i
def IH (D:ε)(e:Int)(D':ε)(e':Int):Int:=
 if D.length=0 then wi (D.length-D'.length) else if D'.length=0 then wi (D.length-D'.length)
 else if wi (wi (wi (D.length+e)-D'.length)-e')=0 then wO D D' (max D.length D'.length) 0 else wi (wi (wi (D.length+e)-D'.length)-e')
abbrev dc (b:Bool)(s:Sl)(e:Int):δ:=[.bool b,aA s,vi e]
theorem akP {x0 x1}{b b'}{s s'}{e e'}{D D'}{g g' m:Nat}(hm:m<=65536):∀n k i h ,m-i<n->i<=m->k=m-i->BL h s D g->BL h s' D' g' ->
  Z h0 h (.ar x1 (dc b' s' e') bw::.ar x0 (dc b s e) bw::L) ->
  Wp (iE n (ak x0) (ak x1) (Value.func (Fn.func jQ) #[] #[]) (m:Int) (i:Int)) h λr h'=>Fr (λ_=>False) h h'/\(r=.inr (wO D D' k i)\/r=.inl ()/\wO D D' k i=0):=by
 intro n
 induction n with
 |zero=>intro k i h h1;omega
 |succ n ih=>
  intro k i h h1 h2 hk bl bl' z;rw[xu];unfold mR;by_cases hi:i<m
  .rw[By (by grind)];obtain⟨k,rfl⟩:∃k',k=k'+1:=⟨k-1,by omega⟩;refine z.gh 1 (x:=((b,s,e):j9 [.bool,.sl,li])) ?_;refine z.gh 0 (x:=((b',s',e'):j9 [.bool,.sl,li])) ?_;unfold nV nX;rw[By (by rfl)];refine z.Qb 0 (P:=λr=>r=D.getD i 0) ?_ λr h3 hr f3 z3=>?_
   .rw[ah];refine iA rfl ?_;exact U1 z.wf bl
   subst hr;refine z3.call (P:=λr _=>r=D'.getD i 0) ?_ λr h4 hr f4 z4=>?_
   .rw[By (by rfl),ah];refine iA rfl ?_;exact U1 z3.wf (bl'.fr f3)
   subst hr;have f34:=jb z.wf f3 f4;show Wp (if (!decide (KA D D' i=0))=true then AI (Sum.inr (KA D D' i)) else _) h4 _;unfold wO;by_cases h0:KA D D' i=0
   .rw[AT (by grind),By h0,xQ (by omega) (by omega)];exact (ih k (i+1) h4 (by omega) (by omega) (by omega) (bl.fr f34) (bl'.fr f34) z4).mono λr h5 hr=>⟨jb z.wf f34 hr.1,hr.2⟩
   .rw[By (by grind),AT h0];exact ag.2 ⟨f34,.inl rfl⟩
  .rw[AT (by grind)];obtain rfl:k=0:=by omega
   exact ag.2 ⟨Fr.refl z.wf,.inr ⟨rfl,rfl⟩⟩
theorem akQ {b b'}{s s'}{e e'}{D D'}{g g' n}(hw:WF h)(bl:BL h s D g)(bl':BL h s' D' g')(hD:D.length<=65536)(hD':D'.length<=65536)(hn:D.length<n/\D'.length<n) :
  Wp (nY n (b,s,e) (b',s',e')) h λr h'=>r=IH D e D' e'/\Fr (λ_=>False) h h':=by
 unfold nY IH;have l1:=bl.len;have l2:=bl'.len;refine (Z.start hw).new λx0 h1 z1 f1=>?_;refine z1.new λx1 h2 z2 f2=>?_;have b2:=(bl.fr f1).fr f2;have b2':=(bl'.fr f1).fr f2;refine z2.ld 1 (x:=s) ?_;by_cases c1:D.length=0
 .rw[By (by grind),By c1];refine z2.ld 1 (x:=s) (z2.ld 0 (x:=s') (ag.2 ⟨?_,z2.fr⟩))
  grind
 rw[AT (by grind),AT c1];refine z2.ld 0 (x:=s') ?_;by_cases c2:D'.length=0
 .rw[By (by grind),By c2];refine z2.ld 1 (x:=s) (z2.ld 0 (x:=s') (ag.2 ⟨?_,z2.fr⟩))
  grind
 rw[AT (by grind),AT c2];unfold ph;refine z2.ld 1 (x:=s) (z2.ld 1 (x:=e) (z2.ld 0 (x:=s') (z2.ld 0 (x:=e') ?_)));rw[l1,l2];by_cases c3:wi (wi (wi (D.length+e)-D'.length)-e')=0
 .rw[AT (by grind),By c3];refine z2.ld 1 (x:=s) (z2.ld 0 (x:=s') ?_);rw[l1,l2];have em:(if (D.length:Int)<(D'.length:Int) then (D'.length:Int) else (D.length:Int))=((max D.length D'.length:Nat):Int):=by
   grind
  have em':(if decide ((D.length:Int)<(D'.length:Int))=true then (D'.length:Int) else (D.length:Int))=((max D.length D'.length:Nat):Int):=by
   grind
  rw[ah];have key:=akP (m:=max D.length D'.length) (by omega) n (max D.length D'.length) 0 h2 (by omega) (by omega) (by omega) b2 b2' z2;have fin:∀r h3,(Fr (λ_=>False) h2 h3/\(r=.inr (wO D D' (max D.length D'.length) 0)\/r=.inl ()/\wO D D' (max D.length D'.length) 0=0)) ->
    Wp (dW (λ(_:Unit)=>(AI 0:M Int)) (λx6=>AI x6) r) h3 λr h'=>r=wO D D' (max D.length D'.length) 0/\Fr (λ_=>False) h h':=λr h3 hr=>by
   obtain⟨f3,hr⟩:=hr;rcases hr with rfl|⟨rfl,e⟩
   .exact ag.2 ⟨rfl,jb hw z2.fr f3⟩
   .rw[e];exact ag.2 ⟨rfl,jb hw z2.fr f3⟩
  first
   |(rw[em];exact key.mono fin)
   |(rw[em'];exact key.mono fin)
 .rw[By (by grind),AT c3];exact ag.2 ⟨rfl,z2.fr⟩
def Mr (x:Int):Int:=if x<0 then -1 else if 0<x then 1 else 0
def Td (N M:Bool×ε×Int):Int:=
 if N.1≠M.1 then (if N.1 then -1 else 1) else if N.1 then wi (0-Mr (IH N.2.1 N.2.2 M.2.1 M.2.2)) else Mr (IH N.2.1 N.2.2 M.2.1 M.2.2)
theorem afd {x y}{N M}{n}(hw:WF h)(dx:IF N h x)(dy:IF M h y)(hn:N.2.1.length<n/\M.2.1.length<n) :
  Wp (rL n x y) h λr h'=>r=Td N M/\Fr (λ_=>False) h h':=by
 obtain⟨x1,x2,x3⟩:=x;obtain⟨y1,y2,y3⟩:=y;obtain⟨N1,N2,N3⟩:=N;obtain⟨M1,M2,M3⟩:=M;obtain⟨rfl,rfl,q1,g1,_,bx⟩:=dx;obtain⟨rfl,rfl,q2,g2,_,by'⟩:=dy;simp at q1 q2 bx by' hn
 unfold rL Td;refine (Z.start hw).new λa h1 z1 f1=>?_;refine z1.new λb h2 z2 f2=>?_;have b2:=(bx.fr f1).fr f2;have b2':=(by'.fr f1).fr f2;refine z2.ld 1 (x:=x1) (z2.ld 0 (x:=y1) ?_);by_cases hb:x1=y1
 .subst hb;rw[AT (by grind),AT (by simp)];refine z2.gh 1 (x:=((x1,x2,x3):j9 [.bool,.sl,li])) ?_;refine z2.gh 0 (x:=((x1,y2,y3):j9 [.bool,.sl,li])) ?_;refine z2.call (P:=λr _=>r=IH N2 x3 M2 y3) (akQ z2.wf b2 b2' q1 q2 hn) λr h3 hr f3 z3=>?_;subst hr;have hs:∀(v:Int) (h:ai) (Q:Int->ai->Prop),Q (Mr v) h->Wp (vp n v) h Q:=λv h Q q=>by
   unfold vp;unfold Mr at q;by_cases c1:v<0
   .rw[By (by grind)];rw[By c1] at q;exact ag.2 q
   .rw[AT (by grind)];rw[AT c1] at q;by_cases c2:0<v
    .rw[By (by grind)];rw[By c2] at q;exact ag.2 q
    .rw[AT (by grind)];rw[AT c2] at q;exact ag.2 q
  rw[ah];refine hs _ _ _ ?_;refine z3.ld 1 (x:=x1) ?_;cases x1 with
  |true=>exact ag.2 ⟨rfl,z3.fr⟩
  |false=>exact ag.2 ⟨rfl,z3.fr⟩
 .rw[By (by grind),By hb];refine z2.ld 1 (x:=x1) ?_;cases x1 with
  |true=>exact ag.2 ⟨rfl,z2.fr⟩
  |false=>exact ag.2 ⟨rfl,z2.fr⟩
def E4 (s t:ζ):Int:=if Cr s=false then 0 else if Cr t=false then 0 else Td (sr s) (sr t)
def IF.fr {N}{x}{X}(d:IF N h x)(f:Fr X h h')(hx:∀g,g<=h.next->X g->g=0):IF N h' x:=by
 obtain⟨a,b,c,g,hg,bl⟩:=d;exact⟨a,b,c,g,acY hg f.next,vR.fr bl f (hx g hg)⟩
theorem abm {s}{i}{e}:(numOf s i e).2.1.length<=s.size:=by
 have h1:=Kr (s.data.toList.head?==some 45) (yV (yA s i)) e;have h2:(yV (yA s i)).length=(yA s i).size:=tR _;have h3:(yA s i).size<=(s.extract 0 i).size:=by
  show (Lib.trimPrefix (s.extract 0 i).data.toList [45]).toArray.size<=_;have h1:=IY (s.extract 0 i).data.toList [45]
  simp_all
 grind [EX,numOf]
theorem Ms s:(sr s).2.1.length<=s.size:=by
 unfold sr;split
 .exact abm
 grind
theorem KB {s t}{n}(hs:s.size<=65536)(ht:t.size<=65536)(hn:s.size+1<n/\t.size+1<n)(hw:WF h):Wp (yr n s t) h λr h'=>r=E4 s t/\Fr (λ_=>False) h h':=by
 unfold yr;rw[ah];refine (wh hs hn.1 hw).mono λx h1 hx=>?_;obtain⟨x1,fx,x2⟩:=hx;refine Z.XG (Z.start fx.wf) λh2 z2 f2=>?_;refine z2.yW 0 (cs':=[.bool x.1.1,aA x.1.2.1,vi x.1.2.2]) λh3 z3 _=>?_;rw[ah];refine (wh ht hn.2 z3.wf).mono λy h4 hy=>?_;obtain⟨y1,fy,y2⟩:=hy;have z4:=z3.pure fy;refine z4.XG λh5 z5 f5=>?_;refine z5.yW 0 (cs':=[.bool y.1.1,aA y.1.2.1,vi y.1.2.2]) λh6 z6 f6=>?_;have f1:Fr (λ_=>False) h h6:=jb hw fx z6.fr;unfold E4;rw[x1];cases ex:Cr s with
 |false=>rw[Kx,By rfl];exact ag.2 ⟨rfl,f1⟩
 |true=>
 rw[Ky,AT (show ¬(true=false) by decide),y1];cases ey:Cr t with
 |false=>rw[Kx,By rfl];exact ag.2 ⟨rfl,f1⟩
 |true=>
 rw[Ky,AT (show ¬(true=false) by decide)];have dx:IF (sr s) h6 x.1:=(x2 (by grind)).fr z6.fr λ_ _ x=>x.elim;have dy5:IF (sr t) h5 y.1:=(y2 (by grind)).fr f5 λ_ _ x=>x.elim;have dy:IF (sr t) h6 y.1:=by
  obtain⟨a,b,c,g,hg,bl⟩:=y2 (by grind);exact⟨a,b,c,g,acY hg (acY f5.next f6.next),vR.fr (vR.fr bl f5 λx=>x.elim) f6 λe=>by omega⟩
 refine z6.gh 1 (x:=((x.1.1,x.1.2.1,x.1.2.2):j9 [.bool,.sl,li])) ?_;refine z6.gh 0 (x:=((y.1.1,y.1.2.1,y.1.2.2):j9 [.bool,.sl,li])) ?_;rw[ah];have q1:=Ms s;have q2:=Ms t;refine (afd z6.wf dx dy (by omega)).mono λr h7 hr=>ag.2 ⟨hr.1,jb hw f1 hr.2⟩
noncomputable def oV (s:ζ):Nat×Bool:=if hs:s.size<=65536 then (Hr hs).choose else (0,false)
def Ge {s:ζ}{n:Nat}(hs:s.size<=65536)(hw:WF h):Wp (jV n s) h λx h'=>x=oV s/\Fr (λ_=>False) h h':=by
 unfold oV;rw[dif_pos hs];exact (Hr hs).choose_spec.2 n h hw
noncomputable def Qm (s t:ζ):Int×Bool:=
 if (oV s).2=false then (0,false) else if (oV t).2=false then (0,false) else if AH (oV s).1 (oV s).1=false then (0,false) else if AH (oV t).1 (oV t).1=false then (0,false)
 else if Yw (oV s).1 (oV t).1 then (-1,true) else if Q9 (oV s).1 (oV t).1 then (1,true) else (0,true)
def LQ {s t:ζ}{n:Nat}(hs:s.size<=65536)(ht:t.size<=65536)(hw:WF h):Wp (Ao n s t) h λr h'=>r=Qm s t/\Fr (λ_=>False) h h':=by
 unfold Ao;rw[ah];refine (Ge hs hw).mono λx h1 hx=>?_;obtain⟨rfl,fx⟩:=hx;rw[ah];refine (Ge ht fx.wf).mono λy h2 hy=>?_;obtain⟨rfl,fy⟩:=hy;have f:=jb hw fx fy;unfold Qm yT;generalize oV s=x;generalize oV t=y;obtain⟨x1,x2⟩:=x;obtain⟨y1,y2⟩:=y;cases x2
 .exact ag.2 ⟨rfl,f⟩
 cases y2
 .exact ag.2 ⟨rfl,f⟩
 simp only[apt,aft,afM];cases AH x1 x1
 .exact ag.2 ⟨rfl,f⟩
 simp only[apt,aft,afM];cases AH y1 y1
 .exact ag.2 ⟨rfl,f⟩
 simp only[apt,aft,afM];cases Yw x1 y1
 .simp only[aft,afM];cases Q9 x1 y1
  .exact ag.2 ⟨rfl,f⟩
  .exact ag.2 ⟨rfl,f⟩
 .exact ag.2 ⟨rfl,f⟩
noncomputable def vc (kind:Int)(s t:ζ):Int:=
 if qk s t then 0 else if kind=2 then Tc s t else if kind=3 then E4 s t else if kind=4 then
  (if qk s (ofBytes [110,97,110]) then 1 else if qk t (ofBytes [110,97,110]) then -1 else if (Qm s t).1≠0 then (Qm s t).1 else if qk s (ofBytes [45,48,112,48]) then -1 else 1)
 else Nz s t
theorem Qn {kind}{s t}{n}(hs:s.size<=65536)(ht:t.size<=65536)(hn:s.size+1<n/\t.size+1<n)(hw:WF h):Wp (wK n kind s t) h λr h'=>r=vc kind s t/\Fr (λ_=>False) h h':=by
 unfold wK vc;cases qk s t
 .simp only[aft,afM];by_cases k2:kind=2
  .rw[By (by grind),By k2,ah];exact (Kz hs ht hn hw).mono λr h1 hr=>ag.2 hr
  rw[AT (by grind),AT k2];by_cases k3:kind=3
  .rw[By (by grind),By k3,ah];exact (KB hs ht hn hw).mono λr h1 hr=>ag.2 hr
  rw[AT (by grind),AT k3];by_cases k4:kind=4
  .rw[By (by grind),By k4];cases qk s (ofBytes [110,97,110])
   .simp only[aft,afM];cases qk t (ofBytes [110,97,110])
    .simp only[aft,afM];rw[ah];refine (LQ hs ht hw).mono λr h1 hr=>?_;obtain⟨rfl,f⟩:=hr;by_cases hc:(Qm s t).1=0
     .rw[AT (by grind),AT (show ¬((Qm s t).1≠0) from λx=>x hc)];cases qk s (ofBytes [45,48,112,48])
      .exact ag.2 ⟨rfl,f⟩
      .exact ag.2 ⟨rfl,f⟩
     .rw[By (by grind),By hc];exact ag.2 ⟨rfl,f⟩
    .exact ag.2 ⟨rfl,Fr.refl hw⟩
   .exact ag.2 ⟨rfl,Fr.refl hw⟩
  rw[AT (by grind),AT k4];unfold strings_Compare mS eh;simp only[ah,ag];exact⟨trivial,Fr.refl hw⟩
 .exact ag.2 ⟨rfl,Fr.refl hw⟩
end
end Go.Sh
