
import Derived.Test.YtdbjhobkhjneeaaGreatDoorPac
set_option linter.all false
namespace Go.Sh
open Go Go.Ago Go.Proofs
section
variable {α β:Type}{h h' h0:aj}{L:List bJ}{Q:β->aj->Prop}
theorem ID {γ:Type}{a b:γ}:(if (!false)=true then a else b)=a:=rfl
theorem IE {γ:Type}{a b:γ}:(if (!true)=true then a else b)=b:=rfl
theorem ad4 {γ:Type}{a b:γ}:(if true=true then a else b)=a:=rfl
theorem ajP {γ:Type}{a b:γ}:(if false=true then a else b)=b:=rfl
theorem OB.bl {ng}{t}{x}(r:OB h h' ng t x):x.1=ng/\∃g,h.next<g/\BL h' x.2 (Ds t) g/\(WF h'->g<=h'.next):=by
 obtain⟨r1,bd,c,r2,r3,l⟩:=r;refine⟨r1,bd+1,by omega,?_,λhw=>hw.iL _ _ _ _ _ l.get⟩;have hk:=Ip (xV t).reverse t.size;have hl:(xV t).reverse.length=t.size:=by rw[am7,sX]
 rw[r3];refine⟨by grind [Ds,sX],.inr ⟨_,rfl,rfl,_,0,gT,l.get,?_,?_⟩⟩
 .grind [Ds,sX,Nat.min_le_right]
 grind [Ds,sX,List.map_take]
def uj (D E:ε):Nat->Int
 |0=>0
 |k+1=>if D.getD k 0=E.getD k 0 then uj D E k else if D.getD k 0<E.getD k 0 then -1 else 1
def Ga (D E:ε):Int:=if D.length≠E.length then (if D.length<E.length then -1 else 1) else uj D E D.length
theorem WA {s t}{D E}{g k}(h1:BL h s D g)(h2:BL h t E k)(hD:D.length<=65536):∀n i ,i<n->i<=D.length->i<=E.length ->
  Wp (nY n s t ((i:Int)-1)) h λr h'=>h'=h/\(r=.inr (uj D E i)\/r=.inl ()/\uj D E i=0):=by
 intro n
 induction n with
 |zero=>intro i hi;omega
 |succ n ih=>
  intro i hi hd he;rw[AX];unfold sB;cases i with
  |zero=>
   rw[AT (by simp)];exact af.2 ⟨rfl,.inr ⟨rfl,rfl⟩⟩
  |succ i=>
   rw[show (((i+1:Nat):Int)-1)=(i:Int) by omega];obtain⟨d,hd1⟩:=gS (l:=D) (i:=i) (by omega);obtain⟨e,he1⟩:=gS (l:=E) (i:=i) (by omega);rw[By (by simp)];have gd:D.getD i 0=d:=by grind
   have ge:E.getD i 0=e:=by grind
   refine rY.X7 h1 (by omega) (by simpa using hd1) λa ca=>?_;refine rY.X7 h2 (by omega) (by simpa using he1) λb cb=>?_;refine ca.tC rfl rfl (cb.tC rfl rfl ?_);unfold uj;rw[gd,ge];by_cases hde:d=e
   .rw[AT (by grind),By hde,tH (by omega) (by omega)];exact ih i (by omega) (by omega) (by omega)
   .rw[By (by grind),AT hde];refine rY.X7 h1 (by omega) (by simpa using hd1) λa ca=>?_;refine rY.X7 h2 (by omega) (by simpa using he1) λb cb=>?_;refine ca.tC rfl rfl (cb.tC rfl rfl ?_);by_cases hlt:d<e
    .rw[By (by grind),By hlt];exact af.2 ⟨rfl,.inl rfl⟩
    .rw[AT (by grind),AT hlt];exact af.2 ⟨rfl,.inl rfl⟩
theorem Tq {s t}{D E}{g k n}(h1:BL h s D g)(h2:BL h t E k)(hD:D.length<=65536)(hn:D.length<n):Wp (sC n s t) h λr h'=>r=Ga D E/\h'=h:=by
 unfold sC Ga;have l1:=h1.len;have l2:=h2.len;by_cases hl:D.length=E.length
 .rw[AT (by grind),AT (by grind),l1,tH (by omega) (by omega),ag];refine (WA h1 h2 hD n D.length hn (aa2 _) (by omega)).mono λr h' hr=>?_;obtain⟨rfl,hr⟩:=hr;rcases hr with rfl|⟨rfl,e⟩
  .exact af.2 ⟨rfl,rfl⟩
  .rw[e];exact af.2 ⟨rfl,rfl⟩
 .rw[By (by grind),By hl];by_cases hlt:D.length<E.length
  .rw[By (by grind),By hlt];exact af.2 ⟨rfl,rfl⟩
  .rw[AT (by grind),AT hlt];exact af.2 ⟨rfl,rfl⟩
def Et (x y:Bool×ε):Int:=if x.1 then (if y.1 then Ga y.2 x.2 else -1) else if y.1 then 1 else Ga x.2 y.2
def Rq (s t:ζ):Int:=if lj s=false then 0 else if lj t=false then 0 else Et ((vK s).1,Ds (vK s).2) ((vK t).1,Ds (vK t).2)
theorem Tr t:(Ds t).length<=t.size:=by
 grind [Ds,List.length_take,Ip,xV]
theorem Ts s:(vK s).2.size<=s.size:=by
 unfold vK;split
 .simp_all
 grind
def ajQ {b c n}{x y}{s t}{D E}{g k}(z:Z h0 h [.au c [.bool y,aC t] aF,.au b [.bool x,aC s] aF])(h1:BL h s D g)(h2:BL h t E k)(hD:D.length<=65536)(hE:E.length<=65536)(hn:D.length<n/\E.length<n) :
  Wp (sJ n (ak b) (ak c)) h λr h'=>r=Et (x,D) (y,E)/\Fr (λ_=>False) h0 h':=by
 have J1:x=y->Wp (kc n (ak b) (ak c)) h λr h'=>r=Et (x,D) (y,E)/\Fr (λ_=>False) h0 h':=λe=>by
  subst e;unfold kc Et;refine z.ld 1 ?_;cases x with
  |true=>
   refine z.ld 0 (z.ld 1 ?_);rw[ag];exact (Tq h2 h1 hE hn.2).mono λr h' hr=>af.2 ⟨hr.1,hr.2▸z.fr⟩
  |false=>
   refine z.ld 1 (z.ld 0 ?_);rw[ag];exact (Tq h1 h2 hD hn.1).mono λr h' hr=>af.2 ⟨hr.1,hr.2▸z.fr⟩
 unfold sJ;cases x with
 |true=>
  refine z.ld 1 ?_;rw[ad4];refine z.ld 0 ?_;cases y with
  |true=>
   rw[IE];refine z.ld 1 ?_;rw[IE];exact J1 rfl
  |false=>rw[ID];exact af.2 ⟨rfl,z.fr⟩
 |false=>
  refine z.ld 1 ?_;rw[ajP];refine z.ld 1 ?_;rw[ID];refine z.ld 0 ?_;cases y with
  |true=>rw[ad4];exact af.2 ⟨rfl,z.fr⟩
  |false=>rw[ajP];exact J1 rfl
def _root_.Go.Ago.Z.Wg (z:Z h0 h L){e:μ}{cs:δ}{f:Nat->M β}(q:∀h',Z h0 h' (.au h.next cs e::L)->Fr (λ_=>False) h h'->Wp (f h.next) h' Q)(hs:cs.all fC=true:=by rfl):Wp (sh (iB none e cs) f) h Q:=by
 rw[ag,CL];have hf:=Fr.new (e:=e) (cs:=cs) z.wf;exact⟨hs,q _ (z.add hf LB.new (.inr (agS _))) hf⟩
theorem IF {s t}{n}(hs:s.size<=65536)(ht:t.size<=65536)(hn:s.size+1<n/\t.size+1<n)(hw:WF h):Wp (xp n s t) h λr h'=>r=Rq s t/\Fr (λ_=>False) h h':=by
 unfold xp;rw[ag];refine (vh hs hn.1 hw).mono λx h1 hx=>?_;obtain⟨x1,fx,x2⟩:=hx;refine Z.Wg (Z.start fx.wf) λh2 z2 _=>?_;refine z2.BD 0 (cs':=[.bool x.1.1,aC x.1.2]) λh3 z3 _=>?_;rw[ag];refine (vh ht hn.2 z3.wf).mono λy h4 hy=>?_;obtain⟨y1,fy,y2⟩:=hy;have z4:=z3.pure fy;refine z4.Wg λh5 z5 f5=>?_;refine z5.BD 0 (cs':=[.bool y.1.1,aC y.1.2]) λh6 z6 f6=>?_;have f1:Fr (λ_=>False) h h6:=jh hw fx z6.fr;unfold Rq;rw[x1];cases ex:lj s with
 |false=>rw[ID,By rfl];exact af.2 ⟨rfl,f1⟩
 |true=>
 rw[IE,AT (show ¬(true=false) by decide),y1];cases ey:lj t with
 |false=>rw[ID,By rfl];exact af.2 ⟨rfl,f1⟩
 |true=>
 rw[IE,AT (show ¬(true=false) by decide)];obtain⟨xn,gx,_,bx,_⟩:=(x2 (by grind)).bl;obtain⟨yn,gy,_,by',hgy⟩:=(y2 (by grind)).bl;have hgy:=hgy z4.wf;have bx6:BL h6 x.1.2 (Ds (vK s).2) gx:=bx.fr z6.fr;have by6:BL h6 y.1.2 (Ds (vK t).2) gy:=rY.fr (by'.fr f5) f6 λe=>by omega
 have lx:=(Tr (vK s).2);have ly:=(Tr (vK t).2);have mx:=Ts s;have my:=Ts t;rw[<-xn,<-yn];exact (ajQ z6 bx6 by6 (by omega) (by omega) (by omega)).mono λr h' hr=>⟨hr.1,jh hw fx hr.2⟩
end
section
variable {α β:Type}{h h' h0:aj}{L:List bJ}{Q:β->aj->Prop}
theorem Tt {b}{s}{e}{D}{g n i:Nat}(hw:WF h)(bl:BL h s D g):Wp (iW n (b,s,e) (i:Int)) h λr h'=>r=D.getD i 0/\Fr (λ_=>False) h h':=by
 unfold iW;refine (Z.start hw).new λx0 h1 z1 f1=>?_;refine z1.ld 0 (x:=s) ?_;have hl:=bl.len;by_cases hi:i<D.length
 .rw[By (by grind)];refine z1.ld 0 (x:=s) ?_;obtain⟨d,hd⟩:=gS hi;have gd:D.getD i 0=d:=by grind
  refine rY.X7 (bl.fr f1) (by omega) (by simpa using hd) λa ca=>?_;refine ca.tC rfl rfl (af.2 ⟨gd.symm,z1.fr⟩)
 .rw[AT (by grind)];have gd:D.getD i 0=0:=by grind
  exact af.2 ⟨gd.symm,z1.fr⟩
abbrev wi (x:Int):Int:=IntKind.i64.wrap x
def IG (D E:ε)(i:Nat):Int:=wi (wi (D.getD i 0)-wi (E.getD i 0))
def vM (D E:ε):Nat->Nat->Int
 |0,_=>0
 |k+1,i=>if IG D E i=0 then vM D E k (i+1) else IG D E i
def GK (D:ε)(e:Int)(D':ε)(e':Int):Int:=
 if D.length=0 then wi (D.length-D'.length) else if D'.length=0 then wi (D.length-D'.length)
 else if wi (wi (wi (D.length+e)-D'.length)-e')=0 then vM D D' (max D.length D'.length) 0 else wi (wi (wi (D.length+e)-D'.length)-e')
abbrev dc (b:Bool)(s:Sl)(e:Int):δ:=[.bool b,aC s,vi e]
theorem ajR {x0 x1}{b b'}{s s'}{e e'}{D D'}{g g' m:Nat}(hm:m<=65536):∀n k i h ,m-i<n->i<=m->k=m-i->BL h s D g->BL h s' D' g' ->
  Z h0 h (.au x1 (dc b' s' e') bu::.au x0 (dc b s e) bu::L) ->
  Wp (iO n (ak x0) (ak x1) (Value.func (Fn.func jM) #[] #[]) (m:Int) (i:Int)) h λr h'=>Fr (λ_=>False) h h'/\(r=.inr (vM D D' k i)\/r=.inl ()/\vM D D' k i=0):=by
 intro n
 induction n with
 |zero=>intro k i h h1;omega
 |succ n ih=>
  intro k i h h1 h2 hk bl bl' z;rw[wA];unfold mD;by_cases hi:i<m
  .rw[By (by grind)];obtain⟨k,rfl⟩:∃k',k=k'+1:=⟨k-1,by omega⟩;refine z.fH 1 (x:=((b,s,e):cF [.bool,.sl,li])) ?_;refine z.fH 0 (x:=((b',s',e'):cF [.bool,.sl,li])) ?_;unfold nA nB;rw[By (by rfl)];refine z.OE 0 (P:=λr=>r=D.getD i 0) ?_ λr h3 hr f3 z3=>?_
   .rw[ag];refine lg rfl ?_;exact Tt z.wf bl
   subst hr;refine z3.call (P:=λr _=>r=D'.getD i 0) ?_ λr h4 hr f4 z4=>?_
   .rw[By (by rfl),ag];refine lg rfl ?_;exact Tt z3.wf (bl'.fr f3)
   subst hr;have f34:=jh z.wf f3 f4;show Wp (if (!decide (IG D D' i=0))=true then AI (Sum.inr (IG D D' i)) else _) h4 _;unfold vM;by_cases h0:IG D D' i=0
   .rw[AT (by grind),By h0,tH (by omega) (by omega)];exact (ih k (i+1) h4 (by omega) (by omega) (by omega) (bl.fr f34) (bl'.fr f34) z4).mono λr h5 hr=>⟨jh z.wf f34 hr.1,hr.2⟩
   .rw[By (by grind),AT h0];exact af.2 ⟨f34,.inl rfl⟩
  .rw[AT (by grind)];obtain rfl:k=0:=by omega
   exact af.2 ⟨Fr.refl z.wf,.inr ⟨rfl,rfl⟩⟩
theorem ajS {b b'}{s s'}{e e'}{D D'}{g g' n}(hw:WF h)(bl:BL h s D g)(bl':BL h s' D' g')(hD:D.length<=65536)(hD':D'.length<=65536)(hn:D.length<n/\D'.length<n) :
  Wp (nC n (b,s,e) (b',s',e')) h λr h'=>r=GK D e D' e'/\Fr (λ_=>False) h h':=by
 unfold nC GK;have l1:=bl.len;have l2:=bl'.len;refine (Z.start hw).new λx0 h1 z1 f1=>?_;refine z1.new λx1 h2 z2 f2=>?_;have b2:=(bl.fr f1).fr f2;have b2':=(bl'.fr f1).fr f2;refine z2.ld 1 (x:=s) ?_;by_cases c1:D.length=0
 .rw[By (by grind),By c1];refine z2.ld 1 (x:=s) (z2.ld 0 (x:=s') (af.2 ⟨?_,z2.fr⟩))
  grind
 rw[AT (by grind),AT c1];refine z2.ld 0 (x:=s') ?_;by_cases c2:D'.length=0
 .rw[By (by grind),By c2];refine z2.ld 1 (x:=s) (z2.ld 0 (x:=s') (af.2 ⟨?_,z2.fr⟩))
  grind
 rw[AT (by grind),AT c2];unfold oE;refine z2.ld 1 (x:=s) (z2.ld 1 (x:=e) (z2.ld 0 (x:=s') (z2.ld 0 (x:=e') ?_)));rw[l1,l2];by_cases c3:wi (wi (wi (D.length+e)-D'.length)-e')=0
 .rw[AT (by grind),By c3];refine z2.ld 1 (x:=s) (z2.ld 0 (x:=s') ?_);rw[l1,l2];have em:(if (D.length:Int)<(D'.length:Int) then (D'.length:Int) else (D.length:Int))=((max D.length D'.length:Nat):Int):=by
   grind
  have em':(if decide ((D.length:Int)<(D'.length:Int))=true then (D'.length:Int) else (D.length:Int))=((max D.length D'.length:Nat):Int):=by
   grind
  rw[ag];have key:=ajR (m:=max D.length D'.length) (by omega) n (max D.length D'.length) 0 h2 (by omega) (by omega) (by omega) b2 b2' z2;have fin:∀r h3,(Fr (λ_=>False) h2 h3/\(r=.inr (vM D D' (max D.length D'.length) 0)\/r=.inl ()/\vM D D' (max D.length D'.length) 0=0)) ->
    Wp (dU (λ(_:Unit)=>(AI 0:M Int)) (λx6=>AI x6) r) h3 λr h'=>r=vM D D' (max D.length D'.length) 0/\Fr (λ_=>False) h h':=λr h3 hr=>by
   obtain⟨f3,hr⟩:=hr;rcases hr with rfl|⟨rfl,e⟩
   .exact af.2 ⟨rfl,jh hw z2.fr f3⟩
   .rw[e];exact af.2 ⟨rfl,jh hw z2.fr f3⟩
  first
   |(rw[em];exact key.mono fin)
   |(rw[em'];exact key.mono fin)
 .rw[By (by grind),AT c3];exact af.2 ⟨rfl,z2.fr⟩
def Ko (x:Int):Int:=if x<0 then -1 else if 0<x then 1 else 0
def Rr (N M:Bool×ε×Int):Int:=
 if N.1≠M.1 then (if N.1 then -1 else 1) else if N.1 then wi (0-Ko (GK N.2.1 N.2.2 M.2.1 M.2.2)) else Ko (GK N.2.1 N.2.2 M.2.1 M.2.2)
theorem ad5 {x y}{N M}{n}(hw:WF h)(dx:GH N h x)(dy:GH M h y)(hn:N.2.1.length<n/\M.2.1.length<n) :
  Wp (qP n x y) h λr h'=>r=Rr N M/\Fr (λ_=>False) h h':=by
 obtain⟨x1,x2,x3⟩:=x;obtain⟨y1,y2,y3⟩:=y;obtain⟨N1,N2,N3⟩:=N;obtain⟨M1,M2,M3⟩:=M;obtain⟨rfl,rfl,q1,g1,_,bx⟩:=dx;obtain⟨rfl,rfl,q2,g2,_,by'⟩:=dy;simp at q1 q2 bx by' hn
 unfold qP Rr;refine (Z.start hw).new λa h1 z1 f1=>?_;refine z1.new λb h2 z2 f2=>?_;have b2:=(bx.fr f1).fr f2;have b2':=(by'.fr f1).fr f2;refine z2.ld 1 (x:=x1) (z2.ld 0 (x:=y1) ?_);by_cases hb:x1=y1
 .subst hb;rw[AT (by grind),AT (by simp)];refine z2.fH 1 (x:=((x1,x2,x3):cF [.bool,.sl,li])) ?_;refine z2.fH 0 (x:=((x1,y2,y3):cF [.bool,.sl,li])) ?_;refine z2.call (P:=λr _=>r=GK N2 x3 M2 y3) (ajS z2.wf b2 b2' q1 q2 hn) λr h3 hr f3 z3=>?_;subst hr;have hs:∀(v:Int) (h:aj) (Q:Int->aj->Prop),Q (Ko v) h->Wp (ux n v) h Q:=λv h Q q=>by
   unfold ux;unfold Ko at q;by_cases c1:v<0
   .rw[By (by grind)];rw[By c1] at q;exact af.2 q
   .rw[AT (by grind)];rw[AT c1] at q;by_cases c2:0<v
    .rw[By (by grind)];rw[By c2] at q;exact af.2 q
    .rw[AT (by grind)];rw[AT c2] at q;exact af.2 q
  rw[ag];refine hs _ _ _ ?_;refine z3.ld 1 (x:=x1) ?_;cases x1 with
  |true=>exact af.2 ⟨rfl,z3.fr⟩
  |false=>exact af.2 ⟨rfl,z3.fr⟩
 .rw[By (by grind),By hb];refine z2.ld 1 (x:=x1) ?_;cases x1 with
  |true=>exact af.2 ⟨rfl,z2.fr⟩
  |false=>exact af.2 ⟨rfl,z2.fr⟩
def Dy (s t:ζ):Int:=if zw s=false then 0 else if zw t=false then 0 else Rr (rq s) (rq t)
def GH.fr {N}{x}{X}(d:GH N h x)(f:Fr X h h')(hx:∀g,g<=h.next->X g->g=0):GH N h' x:=by
 obtain⟨a,b,c,g,hg,bl⟩:=d;exact⟨a,b,c,g,abK hg f.next,rY.fr bl f (hx g hg)⟩
theorem aau {s}{i}{e}:(numOf s i e).2.1.length<=s.size:=by
 have h1:=It (s.data.toList.head?==some 45) (xV (xu s i)) e;have h2:(xV (xu s i)).length=(xu s i).size:=sX _;have h3:(xu s i).size<=(s.extract 0 i).size:=by
  show (Lib.trimPrefix (s.extract 0 i).data.toList [45]).toArray.size<=_;have h1:=GW (s.extract 0 i).data.toList [45]
  simp_all
 grind [Dt,numOf]
theorem Kp s:(rq s).2.1.length<=s.size:=by
 unfold rq;split
 .exact aau
 grind
theorem IH {s t}{n}(hs:s.size<=65536)(ht:t.size<=65536)(hn:s.size+1<n/\t.size+1<n)(hw:WF h):Wp (xq n s t) h λr h'=>r=Dy s t/\Fr (λ_=>False) h h':=by
 unfold xq;rw[ag];refine (vj hs hn.1 hw).mono λx h1 hx=>?_;obtain⟨x1,fx,x2⟩:=hx;refine Z.Wg (Z.start fx.wf) λh2 z2 f2=>?_;refine z2.BD 0 (cs':=[.bool x.1.1,aC x.1.2.1,vi x.1.2.2]) λh3 z3 _=>?_;rw[ag];refine (vj ht hn.2 z3.wf).mono λy h4 hy=>?_;obtain⟨y1,fy,y2⟩:=hy;have z4:=z3.pure fy;refine z4.Wg λh5 z5 f5=>?_;refine z5.BD 0 (cs':=[.bool y.1.1,aC y.1.2.1,vi y.1.2.2]) λh6 z6 f6=>?_;have f1:Fr (λ_=>False) h h6:=jh hw fx z6.fr;unfold Dy;rw[x1];cases ex:zw s with
 |false=>rw[ID,By rfl];exact af.2 ⟨rfl,f1⟩
 |true=>
 rw[IE,AT (show ¬(true=false) by decide),y1];cases ey:zw t with
 |false=>rw[ID,By rfl];exact af.2 ⟨rfl,f1⟩
 |true=>
 rw[IE,AT (show ¬(true=false) by decide)];have dx:GH (rq s) h6 x.1:=(x2 (by grind)).fr z6.fr λ_ _ x=>x.elim;have dy5:GH (rq t) h5 y.1:=(y2 (by grind)).fr f5 λ_ _ x=>x.elim;have dy:GH (rq t) h6 y.1:=by
  obtain⟨a,b,c,g,hg,bl⟩:=y2 (by grind);exact⟨a,b,c,g,abK hg (abK f5.next f6.next),rY.fr (rY.fr bl f5 λx=>x.elim) f6 λe=>by omega⟩
 refine z6.fH 1 (x:=((x.1.1,x.1.2.1,x.1.2.2):cF [.bool,.sl,li])) ?_;refine z6.fH 0 (x:=((y.1.1,y.1.2.1,y.1.2.2):cF [.bool,.sl,li])) ?_;rw[ag];have q1:=Kp s;have q2:=Kp t;refine (ad5 z6.wf dx dy (by omega)).mono λr h7 hr=>af.2 ⟨hr.1,jh hw f1 hr.2⟩
noncomputable def oj (s:ζ):Nat×Bool:=if hs:s.size<=65536 then (Fw hs).choose else (0,false)
def Eu {s:ζ}{n:Nat}(hs:s.size<=65536)(hw:WF h):Wp (jQ n s) h λx h'=>x=oj s/\Fr (λ_=>False) h h':=by
 unfold oj;rw[dif_pos hs];exact (Fw hs).choose_spec.2 n h hw
noncomputable def O6 (s t:ζ):Int×Bool:=
 if (oj s).2=false then (0,false) else if (oj t).2=false then (0,false) else if zL (oj s).1 (oj s).1=false then (0,false) else if zL (oj t).1 (oj t).1=false then (0,false)
 else if Xg (oj s).1 (oj t).1 then (-1,true) else if P0 (oj s).1 (oj t).1 then (1,true) else (0,true)
def JM {s t:ζ}{n:Nat}(hs:s.size<=65536)(ht:t.size<=65536)(hw:WF h):Wp (zl n s t) h λr h'=>r=O6 s t/\Fr (λ_=>False) h h':=by
 unfold zl;rw[ag];refine (Eu hs hw).mono λx h1 hx=>?_;obtain⟨rfl,fx⟩:=hx;rw[ag];refine (Eu ht fx.wf).mono λy h2 hy=>?_;obtain⟨rfl,fy⟩:=hy;have f:=jh hw fx fy;unfold O6 xQ;generalize oj s=x;generalize oj t=y;obtain⟨x1,x2⟩:=x;obtain⟨y1,y2⟩:=y;cases x2
 .exact af.2 ⟨rfl,f⟩
 cases y2
 .exact af.2 ⟨rfl,f⟩
 simp only[anM,aeb,aed];cases zL x1 x1
 .exact af.2 ⟨rfl,f⟩
 simp only[anM,aeb,aed];cases zL y1 y1
 .exact af.2 ⟨rfl,f⟩
 simp only[anM,aeb,aed];cases Xg x1 y1
 .simp only[aeb,aed];cases P0 x1 y1
  .exact af.2 ⟨rfl,f⟩
  .exact af.2 ⟨rfl,f⟩
 .exact af.2 ⟨rfl,f⟩
noncomputable def vN (kind:Int)(s t:ζ):Int:=
 if mQ s t then 0 else if kind=2 then Rq s t else if kind=3 then Dy s t else if kind=4 then
  (if mQ s (ofBytes [110,97,110]) then 1 else if mQ t (ofBytes [110,97,110]) then -1 else if (O6 s t).1≠0 then (O6 s t).1 else if mQ s (ofBytes [45,48,112,48]) then -1 else 1)
 else LN s t
theorem aav {kind}{s t}{n}(hs:s.size<=65536)(ht:t.size<=65536)(hn:s.size+1<n/\t.size+1<n)(hw:WF h):Wp (vI n kind s t) h λr h'=>r=vN kind s t/\Fr (λ_=>False) h h':=by
 unfold vI vN;cases mQ s t
 .simp only[aeb,aed];by_cases k2:kind=2
  .rw[By (by grind),By k2,ag];exact (IF hs ht hn hw).mono λr h1 hr=>af.2 hr
  rw[AT (by grind),AT k2];by_cases k3:kind=3
  .rw[By (by grind),By k3,ag];exact (IH hs ht hn hw).mono λr h1 hr=>af.2 hr
  rw[AT (by grind),AT k3];by_cases k4:kind=4
  .rw[By (by grind),By k4];cases mQ s (ofBytes [110,97,110])
   .simp only[aeb,aed];cases mQ t (ofBytes [110,97,110])
    .simp only[aeb,aed];rw[ag];refine (JM hs ht hw).mono λr h1 hr=>?_;obtain⟨rfl,f⟩:=hr;by_cases hc:(O6 s t).1=0
     .rw[AT (by grind),AT (show ¬((O6 s t).1≠0) from λx=>x hc)];cases mQ s (ofBytes [45,48,112,48])
      .exact af.2 ⟨rfl,f⟩
      .exact af.2 ⟨rfl,f⟩
     .rw[By (by grind),By hc];exact af.2 ⟨rfl,f⟩
    .exact af.2 ⟨rfl,Fr.refl hw⟩
   .exact af.2 ⟨rfl,Fr.refl hw⟩
  rw[AT (by grind),AT k4];unfold strings_Compare mE ea;simp only[ag,af];exact⟨trivial,Fr.refl hw⟩
 .exact af.2 ⟨rfl,Fr.refl hw⟩
end
end Go.Sh
