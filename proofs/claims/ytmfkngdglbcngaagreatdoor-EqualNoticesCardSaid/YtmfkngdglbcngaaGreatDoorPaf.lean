
import Derived.Test.YtmfkngdglbcngaaGreatDoorPab
set_option linter.all false
namespace Go.Sh
open Go Go.Ago Go.Proofs
section
variable {α β:Type}{h h' h0:af}{L:List bu}{Q:β->af->Prop}
theorem Gp {γ:Type}{a b:γ}:(if (!false)=true then a else b)=a:=rfl
theorem Gq {γ:Type}{a b:γ}:(if (!true)=true then a else b)=b:=rfl
theorem ZZ {γ:Type}{a b:γ}:(if true=true then a else b)=a:=rfl
theorem aec {γ:Type}{a b:γ}:(if false=true then a else b)=b:=rfl
theorem Mq.bl {ng:Bool}{t:ζ}{x:Bool×Sl}(r:Mq h h' ng t x):x.1=ng/\∃g,h.next<g/\BL h' x.2 (Hk t) g/\(WF h'->g<=h'.next):=by
 obtain⟨r1,bd,c,r2,r3,l⟩:=r;refine⟨r1,bd+1,by omega,?_,λhw=>hw.dY _ _ _ _ _ l.get⟩;have hk:=Ga (xG t).reverse t.size;have hl:(xG t).reverse.length=t.size:=by rw[ahB,qT]
 rw[r3];refine⟨by unfold Hk;simp[qT];omega,.inr ⟨_,rfl,rfl,_,0,gU,l.get,?_,?_⟩⟩
 .unfold Hk;simp[qT];exact Nat.min_le_right _ _
 .unfold Hk;simp[qT,List.map_take,hk]
def Gr (D E:ε):Nat->Int
 |0=>0
 |k+1=>if D.getD k 0=E.getD k 0 then Gr D E k else if D.getD k 0<E.getD k 0 then -1 else 1
def QZ (D E:ε):Int:=if D.length≠E.length then (if D.length<E.length then -1 else 1) else Gr D E D.length
theorem Tu {s t:Sl}{D E:ε}{g k:Nat}(h1:BL h s D g)(h2:BL h t E k)(hD:D.length<=65536):∀(n i:Nat),i<n->i<=D.length->i<=E.length ->
  Wp (kj n s t ((i:Int)-1)) h λr h'=>h'=h/\(r=.inr (Gr D E i)\/r=.inl ()/\Gr D E i=0):=by
 intro n
 induction n with
 |zero=>intro i hi;omega
 |succ n ih=>
  intro i hi hd he;rw[yS];unfold qE;cases i with
  |zero=>
   rw[By (by simp)];exact ag.2 ⟨rfl,.inr ⟨rfl,rfl⟩⟩
  |succ i=>
   rw[show (((i+1:Nat):Int)-1)=(i:Int) by omega];obtain⟨d,hd1⟩:=fY (l:=D) (i:=i) (by omega);obtain⟨e,he1⟩:=fY (l:=E) (i:=i) (by omega);rw[AT (by simp)];have gd:D.getD i 0=d:=by rw[aeP,hd1];rfl
   have ge:E.getD i 0=e:=by rw[aeP,he1];rfl
   refine rk.UU (enc:=v8) h1 (by omega) (by simpa using hd1) λa ca=>?_;refine rk.UU (enc:=v8) h2 (by omega) (by simpa using he1) λb cb=>?_;refine ca.sy (l:=.int .u8) rfl rfl (cb.sy (l:=.int .u8) rfl rfl ?_);unfold Gr;rw[gd,ge];by_cases hde:d=e
   .rw[By (by simpa using hde),AT hde,s6 (by omega) (by omega)];exact ih i (by omega) (by omega) (by omega)
   .rw[AT (by simpa using hde),By hde];refine rk.UU (enc:=v8) h1 (by omega) (by simpa using hd1) λa ca=>?_;refine rk.UU (enc:=v8) h2 (by omega) (by simpa using he1) λb cb=>?_;refine ca.sy (l:=.int .u8) rfl rfl (cb.sy (l:=.int .u8) rfl rfl ?_);by_cases hlt:d<e
    .rw[AT (by simpa using hlt),AT hlt];exact ag.2 ⟨rfl,.inl rfl⟩
    .rw[By (by simpa using hlt),By hlt];exact ag.2 ⟨rfl,.inl rfl⟩
theorem Q0 {s t:Sl}{D E:ε}{g k n:Nat}(h1:BL h s D g)(h2:BL h t E k)(hD:D.length<=65536)(hn:D.length<n):Wp (qF n s t) h λr h'=>r=QZ D E/\h'=h:=by
 unfold qF QZ;have l1:=h1.len;have l2:=h2.len;by_cases hl:D.length=E.length
 .rw[By (by rw[l1,l2];simp[hl]),By (by simpa using hl),l1,s6 (by omega) (by omega),ah];refine (Tu h1 h2 hD n D.length hn (aao _) (by omega)).mono λr h' hr=>?_;obtain⟨rfl,hr⟩:=hr;rcases hr with rfl|⟨rfl,e⟩
  .exact ag.2 ⟨rfl,rfl⟩
  .rw[e];exact ag.2 ⟨rfl,rfl⟩
 .rw[AT (by rw[l1,l2];simp;omega),AT hl];by_cases hlt:D.length<E.length
  .rw[AT (by rw[l1,l2];simpa using hlt),AT hlt];exact ag.2 ⟨rfl,rfl⟩
  .rw[By (by rw[l1,l2];simpa using hlt),By hlt];exact ag.2 ⟨rfl,rfl⟩
def Q1 (x y:Bool×ε):Int:=if x.1 then (if y.1 then QZ y.2 x.2 else -1) else if y.1 then 1 else QZ x.2 y.2
def aed (s t:ζ):Int:=if oT s=false then 0 else if oT t=false then 0 else Q1 ((yc s).1,Hk (yc s).2) ((yc t).1,Hk (yc t).2)
theorem Q3 (t:ζ):(Hk t).length<=t.size:=by
 unfold Hk;rw[aeO];have:=Ga (xG t).reverse t.size;omega
theorem Q4 (s:ζ):(yc s).2.size<=s.size:=by
 unfold yc;split
 .exact CN s 1 s.size
 .exact aao _
theorem aee {b c n:Nat}{x y:Bool}{s t:Sl}{D E:ε}{g k:Nat}(z:Z h0 h [.au c [.bool y,aH t] aG,.au b [.bool x,aH s] aG])(h1:BL h s D g)(h2:BL h t E k)(hD:D.length<=65536)(hE:E.length<=65536)(hn:D.length<n/\E.length<n) :
  Wp (qG n (an b) (an c)) h λr h'=>r=Q1 (x,D) (y,E)/\Fr (λ_=>False) h0 h':=by
 have J1:x=y->Wp (jF n (an b) (an c)) h λr h'=>r=Q1 (x,D) (y,E)/\Fr (λ_=>False) h0 h':=λe=>by
  subst e;unfold jF Q1;refine z.ld 1 (o:=0) ?_;cases x with
  |true=>
   refine z.ld 0 (o:=1) (z.ld 1 (o:=1) ?_);rw[ah];exact (Q0 h2 h1 hE hn.2).mono λr h' hr=>ag.2 ⟨hr.1,hr.2▸z.fr⟩
  |false=>
   refine z.ld 1 (o:=1) (z.ld 0 (o:=1) ?_);rw[ah];exact (Q0 h1 h2 hD hn.1).mono λr h' hr=>ag.2 ⟨hr.1,hr.2▸z.fr⟩
 unfold qG;cases x with
 |true=>
  refine z.ld 1 (o:=0) (x:=true) ?_;rw[ZZ];refine z.ld 0 (o:=0) (x:=y) ?_;cases y with
  |true=>
   rw[Gq];refine z.ld 1 (o:=0) (x:=true) ?_;rw[Gq];exact J1 rfl
  |false=>rw[Gp];exact ag.2 ⟨rfl,z.fr⟩
 |false=>
  refine z.ld 1 (o:=0) (x:=false) ?_;rw[aec];refine z.ld 1 (o:=0) (x:=false) ?_;rw[Gp];refine z.ld 0 (o:=0) (x:=y) ?_;cases y with
  |true=>rw[ZZ];exact ag.2 ⟨rfl,z.fr⟩
  |false=>rw[aec];exact J1 rfl
theorem _root_.Go.Ago.Z.Z0 (z:Z h0 h L){e:κ}{cs:δ}{f:Nat->M β}(q:∀h',Z h0 h' (.au h.next cs e::L)->Fr (λ_=>False) h h'->Wp (f h.next) h' Q)(hs:cs.all eZ=true:=by rfl):Wp (sh (aM none e cs) f) h Q:=by
 rw[ah,Av];have hf:=Fr.new (e:=e) (cs:=cs) z.wf;exact⟨hs,q _ (z.add hf (o:=.au h.next cs e) LB.new (.inr (aam _))) hf⟩
theorem Gt {s t:ζ}{n:Nat}(hs:s.size<=65536)(ht:t.size<=65536)(hn:s.size+1<n/\t.size+1<n)(hw:WF h):Wp (vm n s t) h λr h'=>r=aed s t/\Fr (λ_=>False) h h':=by
 unfold vm;rw[ah];refine (tI hs hn.1 hw).mono λx h1 hx=>?_;obtain⟨x1,fx,x2⟩:=hx;refine Z.Z0 (Z.start fx.wf) λh2 z2 _=>?_;refine z2.zu 0 (cs':=[.bool x.1.1,aH x.1.2]) λh3 z3 _=>?_;rw[ah];refine (tI ht hn.2 z3.wf).mono λy h4 hy=>?_;obtain⟨y1,fy,y2⟩:=hy;have z4:=z3.pure fy;refine z4.Z0 λh5 z5 f5=>?_;refine z5.zu 0 (cs':=[.bool y.1.1,aH y.1.2]) λh6 z6 f6=>?_;have f1:Fr (λ_=>False) h h6:=iC hw fx z6.fr;unfold aed;rw[x1];cases ex:oT s with
 |false=>rw[Gp,AT rfl];exact ag.2 ⟨rfl,f1⟩
 |true=>
 rw[Gq,By (show ¬(true=false) by decide),y1];cases ey:oT t with
 |false=>rw[Gp,AT rfl];exact ag.2 ⟨rfl,f1⟩
 |true=>
 rw[Gq,By (show ¬(true=false) by decide)];obtain⟨xn,gx,_,bx,_⟩:=(x2 (by rw[x1,ex])).bl;obtain⟨yn,gy,_,by',hgy⟩:=(y2 (by rw[y1,ey])).bl;have hgy:=hgy z4.wf;have bx6:BL h6 x.1.2 (Hk (yc s).2) gx:=bx.fr z6.fr;have by6:BL h6 y.1.2 (Hk (yc t).2) gy:=rk.fr (by'.fr f5) f6 λe=>by omega
 have lx:=(Q3 (yc s).2);have ly:=(Q3 (yc t).2);have mx:=Q4 s;have my:=Q4 t;rw[<-xn,<-yn];exact (aee z6 bx6 by6 (by omega) (by omega) (by omega)).mono λr h' hr=>⟨hr.1,iC hw fx hr.2⟩
end
section
variable {α β:Type}{h h' h0:af}{L:List bu}{Q:β->af->Prop}
theorem Q5 {b:Bool}{s:Sl}{e:Int}{D:ε}{g n i:Nat}(hw:WF h)(bl:BL h s D g):Wp (eQ n (b,s,e) (i:Int)) h λr h'=>r=D.getD i 0/\Fr (λ_=>False) h h':=by
 unfold eQ;refine (Z.start hw).new λx0 h1 z1 f1=>?_;refine z1.ld 0 (o:=1) (l:=.sl) (x:=s) ?_;have hl:=bl.len;by_cases hi:i<D.length
 .rw[AT (by rw[hl];simpa using hi)];refine z1.ld 0 (o:=1) (l:=.sl) (x:=s) ?_;obtain⟨d,hd⟩:=fY (l:=D) (i:=i) hi;have gd:D.getD i 0=d:=by rw[aeP,hd];rfl
  refine rk.UU (enc:=v8) (bl.fr f1) (by omega) (by simpa using hd) λa ca=>?_;refine ca.sy (l:=.int .u8) rfl rfl (ag.2 ⟨gd.symm,z1.fr⟩)
 .rw[By (by rw[hl];simpa using hi)];have gd:D.getD i 0=0:=by grind
  exact ag.2 ⟨gd.symm,z1.fr⟩
abbrev wi (x:Int):Int:=IntKind.i64.wrap x
def Xa (D E:ε)(i:Nat):Int:=wi (wi (D.getD i 0)-wi (E.getD i 0))
def MN (D E:ε):Nat->Nat->Int
 |0,_=>0
 |k+1,i=>if Xa D E i=0 then MN D E k (i+1) else Xa D E i
def Xb (D:ε)(e:Int)(D':ε)(e':Int):Int:=
 if D.length=0 then wi (D.length-D'.length) else if D'.length=0 then wi (D.length-D'.length)
 else if wi (wi (wi (D.length+e)-D'.length)-e')=0 then MN D D' (max D.length D'.length) 0 else wi (wi (wi (D.length+e)-D'.length)-e')
abbrev dc (b:Bool)(s:Sl)(e:Int):δ:=[.bool b,aH s,vi e]
theorem aef {x0 x1:Nat}{b b':Bool}{s s':Sl}{e e':Int}{D D':ε}{g g' m:Nat}(hm:m<=65536):∀(n k i:Nat) (h:af),m-i<n->i<=m->k=m-i->BL h s D g->BL h s' D' g' ->
  Z h0 h (.au x1 (dc b' s' e') bZ::.au x0 (dc b s e) bZ::L) ->
  Wp (fM n (an x0) (an x1) (Value.func (Fn.func jh) #[] #[]) (m:Int) (i:Int)) h λr h'=>Fr (λ_=>False) h h'/\(r=.inr (MN D D' k i)\/r=.inl ()/\MN D D' k i=0):=by
 intro n
 induction n with
 |zero=>intro k i h h1;omega
 |succ n ih=>
  intro k i h h1 h2 hk bl bl' z;rw[uN];unfold lS;by_cases hi:i<m
  .rw[AT (by simpa using hi)];obtain⟨k,rfl⟩:∃k',k=k'+1:=⟨k-1,by omega⟩;refine z.fC 1 (x:=((b,s,e):bS [.bool,.sl,li])) ?_;refine z.fC 0 (x:=((b',s',e'):bS [.bool,.sl,li])) ?_;unfold mE mF;rw[AT (by rfl)];refine z.Mt 0 (P:=λr=>r=D.getD i 0) ?_ λr h3 hr f3 z3=>?_
   .rw[ah];refine kB (c:=()) rfl ?_;exact Q5 z.wf bl
   subst hr;refine z3.call (P:=λr _=>r=D'.getD i 0) ?_ λr h4 hr f4 z4=>?_
   .rw[AT (by rfl),ah];refine kB (c:=()) rfl ?_;exact Q5 z3.wf (bl'.fr f3)
   subst hr;have f34:=iC z.wf f3 f4;show Wp (if (!decide (Xa D D' i=0))=true then AI (Sum.inr (Xa D D' i)) else _) h4 _;unfold MN;by_cases h0:Xa D D' i=0
   .rw[By (by simpa using h0),AT h0,s6 (by omega) (by omega)];exact (ih k (i+1) h4 (by omega) (by omega) (by omega) (bl.fr f34) (bl'.fr f34) z4).mono λr h5 hr=>⟨iC z.wf f34 hr.1,hr.2⟩
   .rw[AT (by simpa using h0),By h0];exact ag.2 ⟨f34,.inl rfl⟩
  .rw[By (by simpa using hi)];obtain rfl:k=0:=by omega
   exact ag.2 ⟨Fr.refl z.wf,.inr ⟨rfl,rfl⟩⟩
theorem aeg {b b':Bool}{s s':Sl}{e e':Int}{D D':ε}{g g' n:Nat}(hw:WF h)(bl:BL h s D g)(bl':BL h s' D' g')(hD:D.length<=65536)(hD':D'.length<=65536)(hn:D.length<n/\D'.length<n) :
  Wp (mG n (b,s,e) (b',s',e')) h λr h'=>r=Xb D e D' e'/\Fr (λ_=>False) h h':=by
 unfold mG Xb;have l1:=bl.len;have l2:=bl'.len;refine (Z.start hw).new λx0 h1 z1 f1=>?_;refine z1.new λx1 h2 z2 f2=>?_;have b2:=(bl.fr f1).fr f2;have b2':=(bl'.fr f1).fr f2;refine z2.ld 1 (o:=1) (l:=.sl) (x:=s) ?_;by_cases c1:D.length=0
 .rw[AT (by rw[l1];simpa using c1),AT c1];refine z2.ld 1 (o:=1) (l:=.sl) (x:=s) (z2.ld 0 (o:=1) (l:=.sl) (x:=s') (ag.2 ⟨?_,z2.fr⟩));rw[l1,l2]
 rw[By (by rw[l1];simpa using c1),By c1];refine z2.ld 0 (o:=1) (l:=.sl) (x:=s') ?_;by_cases c2:D'.length=0
 .rw[AT (by rw[l2];simpa using c2),AT c2];refine z2.ld 1 (o:=1) (l:=.sl) (x:=s) (z2.ld 0 (o:=1) (l:=.sl) (x:=s') (ag.2 ⟨?_,z2.fr⟩));rw[l1,l2]
 rw[By (by rw[l2];simpa using c2),By c2];unfold nH;refine z2.ld 1 (o:=1) (l:=.sl) (x:=s) (z2.ld 1 (o:=2) (x:=e) (z2.ld 0 (o:=1) (l:=.sl) (x:=s') (z2.ld 0 (o:=2) (x:=e') ?_)));rw[l1,l2];by_cases c3:wi (wi (wi (D.length+e)-D'.length)-e')=0
 .rw[By (by simpa using c3),AT c3];refine z2.ld 1 (o:=1) (l:=.sl) (x:=s) (z2.ld 0 (o:=1) (l:=.sl) (x:=s') ?_);rw[l1,l2];have em:(if (D.length:Int)<(D'.length:Int) then (D'.length:Int) else (D.length:Int))=((max D.length D'.length:Nat):Int):=by
   split<;>omega
  have em':(if decide ((D.length:Int)<(D'.length:Int))=true then (D'.length:Int) else (D.length:Int))=((max D.length D'.length:Nat):Int):=by
   rw[<-em];simp
  rw[ah];have key:=aef (m:=max D.length D'.length) (by omega) n (max D.length D'.length) 0 h2 (by omega) (by omega) (by omega) b2 b2' z2;have fin:∀r h3,(Fr (λ_=>False) h2 h3/\(r=.inr (MN D D' (max D.length D'.length) 0)\/r=.inl ()/\MN D D' (max D.length D'.length) 0=0)) ->
    Wp (cY (λ(_:Unit)=>(AI 0:M Int)) (λx6=>AI x6) r) h3 λr h'=>r=MN D D' (max D.length D'.length) 0/\Fr (λ_=>False) h h':=λr h3 hr=>by
   obtain⟨f3,hr⟩:=hr;rcases hr with rfl|⟨rfl,e⟩
   .exact ag.2 ⟨rfl,iC hw z2.fr f3⟩
   .rw[e];exact ag.2 ⟨rfl,iC hw z2.fr f3⟩
  first
   |(rw[em];exact key.mono fin)
   |(rw[em'];exact key.mono fin)
 .rw[AT (by simpa using c3),By c3];exact ag.2 ⟨rfl,z2.fr⟩
def sgn (x:Int):Int:=if x<0 then -1 else if 0<x then 1 else 0
def aeh (N M:Bool×ε×Int):Int:=
 if N.1≠M.1 then (if N.1 then -1 else 1) else if N.1 then wi (0-sgn (Xb N.2.1 N.2.2 M.2.1 M.2.2)) else sgn (Xb N.2.1 N.2.2 M.2.1 M.2.2)
theorem Z1 {x y:Bool×Sl×Int}{N M:Bool×ε×Int}{n:Nat}(hw:WF h)(dx:D9 N h x)(dy:D9 M h y)(hn:N.2.1.length<n/\M.2.1.length<n) :
  Wp (pE n x y) h λr h'=>r=aeh N M/\Fr (λ_=>False) h h':=by
 obtain⟨x1,x2,x3⟩:=x;obtain⟨y1,y2,y3⟩:=y;obtain⟨N1,N2,N3⟩:=N;obtain⟨M1,M2,M3⟩:=M;obtain⟨rfl,rfl,q1,g1,_,bx⟩:=dx;obtain⟨rfl,rfl,q2,g2,_,by'⟩:=dy;simp only at q1 q2 bx by' hn
 unfold pE aeh;refine (Z.start hw).new λa h1 z1 f1=>?_;refine z1.new λb h2 z2 f2=>?_;have b2:=(bx.fr f1).fr f2;have b2':=(by'.fr f1).fr f2;refine z2.ld 1 (o:=0) (x:=x1) (z2.ld 0 (o:=0) (x:=y1) ?_);by_cases hb:x1=y1
 .subst hb;rw[By (by cases x1<;>decide),By (by simp)];refine z2.fC 1 (x:=((x1,x2,x3):bS [.bool,.sl,li])) ?_;refine z2.fC 0 (x:=((x1,y2,y3):bS [.bool,.sl,li])) ?_;refine z2.call (P:=λr _=>r=Xb N2 x3 M2 y3) (aeg z2.wf b2 b2' q1 q2 hn) λr h3 hr f3 z3=>?_;subst hr;have hs:∀(v:Int) (h:af) (Q:Int->af->Prop),Q (sgn v) h->Wp (sF n v) h Q:=λv h Q q=>by
   unfold sF;unfold sgn at q;by_cases c1:v<0
   .rw[AT (by simpa using c1)];rw[AT c1] at q;exact ag.2 q
   .rw[By (by simpa using c1)];rw[By c1] at q;by_cases c2:0<v
    .rw[AT (by simpa using c2)];rw[AT c2] at q;exact ag.2 q
    .rw[By (by simpa using c2)];rw[By c2] at q;exact ag.2 q
  rw[ah];refine hs _ _ _ ?_;refine z3.ld 1 (o:=0) (x:=x1) ?_;cases x1 with
  |true=>exact ag.2 ⟨rfl,z3.fr⟩
  |false=>exact ag.2 ⟨rfl,z3.fr⟩
 .rw[AT (by cases x1<;>cases y1<;>simp_all),AT hb];refine z2.ld 1 (o:=0) (x:=x1) ?_;cases x1 with
  |true=>exact ag.2 ⟨rfl,z2.fr⟩
  |false=>exact ag.2 ⟨rfl,z2.fr⟩
def Ps (s t:ζ):Int:=if Gd s=false then 0 else if Gd t=false then 0 else aeh (xt s) (xt t)
theorem D9.fr {N:Bool×ε×Int}{x:Bool×Sl×Int}{X:Nat->Prop}(d:D9 N h x)(f:Fr X h h')(hx:∀g,g<=h.next->X g->g=0):D9 N h' x:=by
 obtain⟨a,b,c,g,hg,bl⟩:=d;exact⟨a,b,c,g,abX hg f.next,rk.fr bl f (hx g hg)⟩
theorem Xc {s:ζ}{i:Nat}{e:Int}:(numOf s i e).2.1.length<=s.size:=by
 have h1:=Ge (s.data.toList.head?==some 45) (xG (xH s i)) e;have h2:(xG (xH s i)).length=(xH s i).size:=qT _;have h3:(xH s i).size<=(s.extract 0 i).size:=by
  show (Lib.trimPrefix (s.extract 0 i).data.toList [45]).toArray.size<=_;have h1:=Kc (s.extract 0 i).data.toList [45];rw[agY];exact h1
 have h4:=CN s 0 i;unfold numOf;omega
theorem H0 (s:ζ):(xt s).2.1.length<=s.size:=by
 unfold xt;split
 .exact Xc
 .exact agQ _
theorem Gu {s t:ζ}{n:Nat}(hs:s.size<=65536)(ht:t.size<=65536)(hn:s.size+1<n/\t.size+1<n)(hw:WF h):Wp (vn n s t) h λr h'=>r=Ps s t/\Fr (λ_=>False) h h':=by
 unfold vn;rw[ah];refine (tJ hs hn.1 hw).mono λx h1 hx=>?_;obtain⟨x1,fx,x2⟩:=hx;refine Z.Z0 (Z.start fx.wf) λh2 z2 f2=>?_;refine z2.zu 0 (cs':=[.bool x.1.1,aH x.1.2.1,vi x.1.2.2]) λh3 z3 _=>?_;rw[ah];refine (tJ ht hn.2 z3.wf).mono λy h4 hy=>?_;obtain⟨y1,fy,y2⟩:=hy;have z4:=z3.pure fy;refine z4.Z0 λh5 z5 f5=>?_;refine z5.zu 0 (cs':=[.bool y.1.1,aH y.1.2.1,vi y.1.2.2]) λh6 z6 f6=>?_;have f1:Fr (λ_=>False) h h6:=iC hw fx z6.fr;unfold Ps;rw[x1];cases ex:Gd s with
 |false=>rw[Gp,AT rfl];exact ag.2 ⟨rfl,f1⟩
 |true=>
 rw[Gq,By (show ¬(true=false) by decide),y1];cases ey:Gd t with
 |false=>rw[Gp,AT rfl];exact ag.2 ⟨rfl,f1⟩
 |true=>
 rw[Gq,By (show ¬(true=false) by decide)];have dx:D9 (xt s) h6 x.1:=(x2 (by rw[x1,ex])).fr z6.fr λ_ _ x=>x.elim;have dy5:D9 (xt t) h5 y.1:=(y2 (by rw[y1,ey])).fr f5 λ_ _ x=>x.elim;have dy:D9 (xt t) h6 y.1:=by
  obtain⟨a,b,c,g,hg,bl⟩:=y2 (by rw[y1,ey]);exact⟨a,b,c,g,abX hg (abX f5.next f6.next),rk.fr (rk.fr bl f5 λx=>x.elim) f6 λe=>by omega⟩
 refine z6.fC 1 (x:=((x.1.1,x.1.2.1,x.1.2.2):bS [.bool,.sl,li])) ?_;refine z6.fC 0 (x:=((y.1.1,y.1.2.1,y.1.2.2):bS [.bool,.sl,li])) ?_;rw[ah];have q1:=H0 s;have q2:=H0 t;refine (Z1 z6.wf dx dy (by omega)).mono λr h7 hr=>ag.2 ⟨hr.1,iC hw f1 hr.2⟩
noncomputable def BU (s:ζ):Nat×Bool:=if hs:s.size<=65536 then (CQ hs).choose else (0,false)
theorem MO {s:ζ}{n:Nat}(hs:s.size<=65536)(hw:WF h):Wp (mw n s) h λx h'=>x=BU s/\Fr (λ_=>False) h h':=by
 unfold BU;rw[dif_pos hs];exact (CQ hs).choose_spec n h hw
noncomputable def Tv (s t:ζ):Int×Bool:=
 if (BU s).2=false then (0,false) else if (BU t).2=false then (0,false) else if GR (BU s).1 (BU s).1=false then (0,false) else if GR (BU t).1 (BU t).1=false then (0,false)
 else if X6 (BU s).1 (BU t).1 then (-1,true) else if XV (BU s).1 (BU t).1 then (1,true) else (0,true)
theorem Hp {s t:ζ}{n:Nat}(hs:s.size<=65536)(ht:t.size<=65536)(hw:WF h):Wp (xg n s t) h λr h'=>r=Tv s t/\Fr (λ_=>False) h h':=by
 unfold xg;rw[ah];refine (MO hs hw).mono λx h1 hx=>?_;obtain⟨rfl,fx⟩:=hx;rw[ah];refine (MO ht fx.wf).mono λy h2 hy=>?_;obtain⟨rfl,fy⟩:=hy;have f:=iC hw fx fy;unfold Tv vL;generalize BU s=x;generalize BU t=y;obtain⟨x1,x2⟩:=x;obtain⟨y1,y2⟩:=y;cases x2
 .exact ag.2 ⟨rfl,f⟩
 cases y2
 .exact ag.2 ⟨rfl,f⟩
 simp only[ah6,adZ,aeL];cases GR x1 x1
 .exact ag.2 ⟨rfl,f⟩
 simp only[ah6,adZ,aeL];cases GR y1 y1
 .exact ag.2 ⟨rfl,f⟩
 simp only[ah6,adZ,aeL];cases X6 x1 y1
 .simp only[adZ,aeL];cases XV x1 y1
  .exact ag.2 ⟨rfl,f⟩
  .exact ag.2 ⟨rfl,f⟩
 .exact ag.2 ⟨rfl,f⟩
noncomputable def Tw (kind:Int)(s t:ζ):Int:=
 if mX s t then 0 else if kind=2 then aed s t else if kind=3 then Ps s t else if kind=4 then
  (if mX s (ofBytes [110,97,110]) then 1 else if mX t (ofBytes [110,97,110]) then -1 else if (Tv s t).1≠0 then (Tv s t).1 else if mX s (ofBytes [45,48,112,48]) then -1 else 1)
 else YS s t
theorem Xd {kind:Int}{s t:ζ}{n:Nat}(hs:s.size<=65536)(ht:t.size<=65536)(hn:s.size+1<n/\t.size+1<n)(hw:WF h):Wp (ua n kind s t) h λr h'=>r=Tw kind s t/\Fr (λ_=>False) h h':=by
 unfold ua Tw;cases mX s t
 .simp only[adZ,aeL];by_cases k2:kind=2
  .rw[AT (by simpa using k2),AT k2,ah];exact (Gt hs ht hn hw).mono λr h1 hr=>ag.2 hr
  rw[By (by simpa using k2),By k2];by_cases k3:kind=3
  .rw[AT (by simpa using k3),AT k3,ah];exact (Gu hs ht hn hw).mono λr h1 hr=>ag.2 hr
  rw[By (by simpa using k3),By k3];by_cases k4:kind=4
  .rw[AT (by simpa using k4),AT k4];cases mX s (ofBytes [110,97,110])
   .simp only[adZ,aeL];cases mX t (ofBytes [110,97,110])
    .simp only[adZ,aeL];rw[ah];refine (Hp hs ht hw).mono λr h1 hr=>?_;obtain⟨rfl,f⟩:=hr;by_cases hc:(Tv s t).1=0
     .rw[By (by simpa using hc),By (show ¬((Tv s t).1≠0) from λx=>x hc)];cases mX s (ofBytes [45,48,112,48])
      .exact ag.2 ⟨rfl,f⟩
      .exact ag.2 ⟨rfl,f⟩
     .rw[AT (by simpa using hc),AT hc];exact ag.2 ⟨rfl,f⟩
    .exact ag.2 ⟨rfl,Fr.refl hw⟩
   .exact ag.2 ⟨rfl,Fr.refl hw⟩
  rw[By (by simpa using k4),By k4];unfold strings_Compare lT dP;simp only[ah,ag];exact⟨trivial,Fr.refl hw⟩
 .exact ag.2 ⟨rfl,Fr.refl hw⟩
end
end Go.Sh
