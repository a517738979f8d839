
import Derived.Test.YtcdofopdlaebaaaGreatDoorPab
set_option linter.all false
namespace Go.Sh
open Go Go.Ago Go.Proofs
section
variable {α β:Type}{h h' h0:af}{L:List bj}{Q:β->af->Prop}
theorem Fv {γ:Type}{a b:γ}:(if (!false)=true then a else b)=a:=rfl
theorem Fw {γ:Type}{a b:γ}:(if (!true)=true then a else b)=b:=rfl
theorem Y7 {γ:Type}{a b:γ}:(if true=true then a else b)=a:=rfl
theorem ac0 {γ:Type}{a b:γ}:(if false=true then a else b)=b:=rfl
theorem Lw.bl {ng:Bool}{t:ByteArray}{x:Bool×Sl}(r:Lw h h' ng t x):x.1=ng/\∃g,h.next<g/\BL h' x.2 (Gq t) g/\(WF h'->g<=h'.next):=by
 obtain⟨r1,bd,c,r2,r3,l⟩:=r;refine⟨r1,bd+1,by omega,?_,λhw=>hw.dW _ _ _ _ _ l.get⟩;have hk:=Fh (wT t).reverse t.size;have hl:(wT t).reverse.length=t.size:=by rw[agm,qo]
 rw[r3];refine⟨by unfold Gq;simp[qo];omega,.inr ⟨_,rfl,rfl,_,0,gC,l.get,?_,?_⟩⟩
 .unfold Gq;simp[qo];exact Nat.min_le_right _ _
 .unfold Gq;simp[qo,List.map_take,hk]
def Fx (D E:List Int):Nat->Int
 |0=>0
 |k+1=>if D.getD k 0=E.getD k 0 then Fx D E k else if D.getD k 0<E.getD k 0 then -1 else 1
def Qe (D E:List Int):Int:=if D.length≠E.length then (if D.length<E.length then -1 else 1) else Fx D E D.length
theorem Sz {s t:Sl}{D E:List Int}{g k:Nat}(h1:BL h s D g)(h2:BL h t E k)(hD:D.length<=65536):∀(n i:Nat),i<n->i<=D.length->i<=E.length ->
  Wp (jT n s t ((i:Int)-1)) h λr h'=>h'=h/\(r=.inr (Fx D E i)\/r=.inl ()/\Fx D E i=0):=by
 intro n
 induction n with
 |zero=>intro i hi;omega
 |succ n ih=>
  intro i hi hd he;rw[xX];unfold p7;cases i with
  |zero=>
   rw[if_neg (by simp)];exact ag.2 ⟨rfl,.inr ⟨rfl,rfl⟩⟩
  |succ i=>
   rw[show (((i+1:Nat):Int)-1)=(i:Int) by omega];obtain⟨d,hd1⟩:=jy (l:=D) (i:=i) (by omega);obtain⟨e,he1⟩:=jy (l:=E) (i:=i) (by omega);rw[if_pos (by simp)];have gd:D.getD i 0=d:=by rw[acP,hd1];rfl
   have ge:E.getD i 0=e:=by rw[acP,he1];rfl
   refine qy.Ua (enc:=v8) h1 (by omega) (by simpa using hd1) λa ca=>?_;refine qy.Ua (enc:=v8) h2 (by omega) (by simpa using he1) λb cb=>?_;refine ca.pL (l:=.int .u8) rfl rfl (cb.pL (l:=.int .u8) rfl rfl ?_);unfold Fx;rw[gd,ge];by_cases hde:d=e
   .rw[if_neg (by simpa using hde),if_pos hde,sq (by omega) (by omega)];exact ih i (by omega) (by omega) (by omega)
   .rw[if_pos (by simpa using hde),if_neg hde];refine qy.Ua (enc:=v8) h1 (by omega) (by simpa using hd1) λa ca=>?_;refine qy.Ua (enc:=v8) h2 (by omega) (by simpa using he1) λb cb=>?_;refine ca.pL (l:=.int .u8) rfl rfl (cb.pL (l:=.int .u8) rfl rfl ?_);by_cases hlt:d<e
    .rw[if_pos (by simpa using hlt),if_pos hlt];exact ag.2 ⟨rfl,.inl rfl⟩
    .rw[if_neg (by simpa using hlt),if_neg hlt];exact ag.2 ⟨rfl,.inl rfl⟩
theorem Qf {s t:Sl}{D E:List Int}{g k n:Nat}(h1:BL h s D g)(h2:BL h t E k)(hD:D.length<=65536)(hn:D.length<n):Wp (p8 n s t) h λr h'=>r=Qe D E/\h'=h:=by
 unfold p8 Qe;have l1:=h1.len;have l2:=h2.len;by_cases hl:D.length=E.length
 .rw[if_neg (by rw[l1,l2];simp[hl]),if_neg (by simpa using hl),l1,sq (by omega) (by omega),ah];refine (Sz h1 h2 hD n D.length hn (aaR _) (by omega)).mono λr h' hr=>?_;obtain⟨rfl,hr⟩:=hr;rcases hr with rfl|⟨rfl,e⟩
  .exact ag.2 ⟨rfl,rfl⟩
  .rw[e];exact ag.2 ⟨rfl,rfl⟩
 .rw[if_pos (by rw[l1,l2];simp;omega),if_pos hl];by_cases hlt:D.length<E.length
  .rw[if_pos (by rw[l1,l2];simpa using hlt),if_pos hlt];exact ag.2 ⟨rfl,rfl⟩
  .rw[if_neg (by rw[l1,l2];simpa using hlt),if_neg hlt];exact ag.2 ⟨rfl,rfl⟩
def Qg (x y:Bool×List Int):Int:=if x.1 then (if y.1 then Qe y.2 x.2 else -1) else if y.1 then 1 else Qe x.2 y.2
def ac1 (s t:ByteArray):Int:=if oh s=false then 0 else if oh t=false then 0 else Qg ((xg s).1,Gq (xg s).2) ((xg t).1,Gq (xg t).2)
theorem Qh (t:ByteArray):(Gq t).length<=t.size:=by
 unfold Gq;rw[adw];have:=Fh (wT t).reverse t.size;omega
theorem Qi (s:ByteArray):(xg s).2.size<=s.size:=by
 unfold xg;split
 .exact BZ s 1 s.size
 .exact aaR _
theorem ac2 {b c n:Nat}{x y:Bool}{s t:Sl}{D E:List Int}{g k:Nat}(z:Z h0 h [.ar c [.bool y,aE t] aH,.ar b [.bool x,aE s] aH])(h1:BL h s D g)(h2:BL h t E k)(hD:D.length<=65536)(hE:E.length<=65536)(hn:D.length<n/\E.length<n) :
  Wp (p9 n (ak b) (ak c)) h λr h'=>r=Qg (x,D) (y,E)/\Fr (λ_=>False) h0 h':=by
 have J1:x=y->Wp (jl n (ak b) (ak c)) h λr h'=>r=Qg (x,D) (y,E)/\Fr (λ_=>False) h0 h':=λe=>by
  subst e;unfold jl Qg;refine z.ld 1 (o:=0) ?_;cases x with
  |true=>
   refine z.ld 0 (o:=1) (z.ld 1 (o:=1) ?_);rw[ah];exact (Qf h2 h1 hE hn.2).mono λr h' hr=>ag.2 ⟨hr.1,hr.2▸z.fr⟩
  |false=>
   refine z.ld 1 (o:=1) (z.ld 0 (o:=1) ?_);rw[ah];exact (Qf h1 h2 hD hn.1).mono λr h' hr=>ag.2 ⟨hr.1,hr.2▸z.fr⟩
 unfold p9;cases x with
 |true=>
  refine z.ld 1 (o:=0) (x:=true) ?_;rw[Y7];refine z.ld 0 (o:=0) (x:=y) ?_;cases y with
  |true=>
   rw[Fw];refine z.ld 1 (o:=0) (x:=true) ?_;rw[Fw];exact J1 rfl
  |false=>rw[Fv];exact ag.2 ⟨rfl,z.fr⟩
 |false=>
  refine z.ld 1 (o:=0) (x:=false) ?_;rw[ac0];refine z.ld 1 (o:=0) (x:=false) ?_;rw[Fv];refine z.ld 0 (o:=0) (x:=y) ?_;cases y with
  |true=>rw[Y7];exact ag.2 ⟨rfl,z.fr⟩
  |false=>rw[ac0];exact J1 rfl
theorem _root_.Go.Ago.Z.Y8 (z:Z h0 h L){e:TypeId}{cs:List Value}{f:Nat->M β}(q:∀h',Z h0 h' (.ar h.next cs e::L)->Fr (λ_=>False) h h'->Wp (f h.next) h' Q)(hs:cs.all eQ=true:=by rfl):Wp (sh (aO none e cs) f) h Q:=by
 rw[ah,zF];have hf:=Fr.new (e:=e) (cs:=cs) z.wf;exact⟨hs,q _ (z.add hf (o:=.ar h.next cs e) LB.new (.inr (aar _))) hf⟩
theorem Fy {s t:ByteArray}{n:Nat}(hs:s.size<=65536)(ht:t.size<=65536)(hn:s.size+1<n/\t.size+1<n)(hw:WF h):Wp (uH n s t) h λr h'=>r=ac1 s t/\Fr (λ_=>False) h h':=by
 unfold uH;rw[ah];refine (sQ hs hn.1 hw).mono λx h1 hx=>?_;obtain⟨x1,fx,x2⟩:=hx;refine Z.Y8 (Z.start fx.wf) λh2 z2 _=>?_;refine z2.G5 0 (cs':=[.bool x.1.1,aE x.1.2]) λh3 z3 _=>?_;rw[ah];refine (sQ ht hn.2 z3.wf).mono λy h4 hy=>?_;obtain⟨y1,fy,y2⟩:=hy;have z4:=z3.pure fy;refine z4.Y8 λh5 z5 f5=>?_;refine z5.G5 0 (cs':=[.bool y.1.1,aE y.1.2]) λh6 z6 f6=>?_;have f1:Fr (λ_=>False) h h6:=gZ hw fx z6.fr;unfold ac1;rw[x1];cases ex:oh s with
 |false=>rw[Fv,if_pos rfl];exact ag.2 ⟨rfl,f1⟩
 |true=>
 rw[Fw,if_neg (show ¬(true=false) by decide),y1];cases ey:oh t with
 |false=>rw[Fv,if_pos rfl];exact ag.2 ⟨rfl,f1⟩
 |true=>
 rw[Fw,if_neg (show ¬(true=false) by decide)];obtain⟨xn,gx,_,bx,_⟩:=(x2 (by rw[x1,ex])).bl;obtain⟨yn,gy,_,by',hgy⟩:=(y2 (by rw[y1,ey])).bl;have hgy:=hgy z4.wf;have bx6:BL h6 x.1.2 (Gq (xg s).2) gx:=bx.fr z6.fr;have by6:BL h6 y.1.2 (Gq (xg t).2) gy:=qy.fr (by'.fr f5) f6 λe=>by omega
 have lx:=(Qh (xg s).2);have ly:=(Qh (xg t).2);have mx:=Qi s;have my:=Qi t;rw[<-xn,<-yn];exact (ac2 z6 bx6 by6 (by omega) (by omega) (by omega)).mono λr h' hr=>⟨hr.1,gZ hw fx hr.2⟩
end
section
variable {α β:Type}{h h' h0:af}{L:List bj}{Q:β->af->Prop}
theorem Qj {b:Bool}{s:Sl}{e:Int}{D:List Int}{g n i:Nat}(hw:WF h)(bl:BL h s D g):Wp (eK n (b,s,e) (i:Int)) h λr h'=>r=D.getD i 0/\Fr (λ_=>False) h h':=by
 unfold eK;refine (Z.start hw).new λx0 h1 z1 f1=>?_;refine z1.ld 0 (o:=1) (l:=.sl) (x:=s) ?_;have hl:=bl.len;by_cases hi:i<D.length
 .rw[if_pos (by rw[hl];simpa using hi)];refine z1.ld 0 (o:=1) (l:=.sl) (x:=s) ?_;obtain⟨d,hd⟩:=jy (l:=D) (i:=i) hi;have gd:D.getD i 0=d:=by rw[acP,hd];rfl
  refine qy.Ua (enc:=v8) (bl.fr f1) (by omega) (by simpa using hd) λa ca=>?_;refine ca.pL (l:=.int .u8) rfl rfl (ag.2 ⟨gd.symm,z1.fr⟩)
 .rw[if_neg (by rw[hl];simpa using hi)];have gd:D.getD i 0=0:=by rw[acP,ad8 (by omega)];rfl
  exact ag.2 ⟨gd.symm,z1.fr⟩
abbrev wi (x:Int):Int:=IntKind.i64.wrap x
def Wi (D E:List Int)(i:Nat):Int:=wi (wi (D.getD i 0)-wi (E.getD i 0))
def LS (D E:List Int):Nat->Nat->Int
 |0,_=>0
 |k+1,i=>if Wi D E i=0 then LS D E k (i+1) else Wi D E i
def Wj (D:List Int)(e:Int)(D':List Int)(e':Int):Int:=
 if D.length=0 then wi (D.length-D'.length) else if D'.length=0 then wi (D.length-D'.length)
 else if wi (wi (wi (D.length+e)-D'.length)-e')=0 then LS D D' (max D.length D'.length) 0 else wi (wi (wi (D.length+e)-D'.length)-e')
abbrev dc (b:Bool)(s:Sl)(e:Int):List Value:=[.bool b,aE s,vi e]
theorem ac3 {x0 x1:Nat}{b b':Bool}{s s':Sl}{e e':Int}{D D':List Int}{g g' m:Nat}(hm:m<=65536):∀(n k i:Nat) (h:af),m-i<n->i<=m->k=m-i->BL h s D g->BL h s' D' g' ->
  Z h0 h (.ar x1 (dc b' s' e') bZ::.ar x0 (dc b s e) bZ::L) ->
  Wp (fF n (ak x0) (ak x1) (Value.func (Fn.func iQ) #[] #[]) (m:Int) (i:Int)) h λr h'=>Fr (λ_=>False) h h'/\(r=.inr (LS D D' k i)\/r=.inl ()/\LS D D' k i=0):=by
 intro n
 induction n with
 |zero=>intro k i h h1;omega
 |succ n ih=>
  intro k i h h1 h2 hk bl bl' z;rw[tY];unfold lj;by_cases hi:i<m
  .rw[if_pos (by simpa using hi)];obtain⟨k,rfl⟩:∃k',k=k'+1:=⟨k-1,by omega⟩;refine z.fI 1 (x:=((b,s,e):bN [.bool,.sl,li])) ?_;refine z.fI 0 (x:=((b',s',e'):bN [.bool,.sl,li])) ?_;unfold lX lY;rw[if_pos (by rfl)];refine z.LA 0 (P:=λr=>r=D.getD i 0) ?_ λr h3 hr f3 z3=>?_
   .rw[ah];refine jX (c:=()) rfl ?_;exact Qj z.wf bl
   subst hr;refine z3.call (P:=λr _=>r=D'.getD i 0) ?_ λr h4 hr f4 z4=>?_
   .rw[if_pos (by rfl),ah];refine jX (c:=()) rfl ?_;exact Qj z3.wf (bl'.fr f3)
   subst hr;have f34:=gZ z.wf f3 f4;show Wp (if (!decide (Wi D D' i=0))=true then AI (Sum.inr (Wi D D' i)) else _) h4 _;unfold LS;by_cases h0:Wi D D' i=0
   .rw[if_neg (by simpa using h0),if_pos h0,sq (by omega) (by omega)];exact (ih k (i+1) h4 (by omega) (by omega) (by omega) (bl.fr f34) (bl'.fr f34) z4).mono λr h5 hr=>⟨gZ z.wf f34 hr.1,hr.2⟩
   .rw[if_pos (by simpa using h0),if_neg h0];exact ag.2 ⟨f34,.inl rfl⟩
  .rw[if_neg (by simpa using hi)];obtain rfl:k=0:=by omega
   exact ag.2 ⟨Fr.refl z.wf,.inr ⟨rfl,rfl⟩⟩
theorem ac4 {b b':Bool}{s s':Sl}{e e':Int}{D D':List Int}{g g' n:Nat}(hw:WF h)(bl:BL h s D g)(bl':BL h s' D' g')(hD:D.length<=65536)(hD':D'.length<=65536)(hn:D.length<n/\D'.length<n) :
  Wp (lZ n (b,s,e) (b',s',e')) h λr h'=>r=Wj D e D' e'/\Fr (λ_=>False) h h':=by
 unfold lZ Wj;have l1:=bl.len;have l2:=bl'.len;refine (Z.start hw).new λx0 h1 z1 f1=>?_;refine z1.new λx1 h2 z2 f2=>?_;have b2:=(bl.fr f1).fr f2;have b2':=(bl'.fr f1).fr f2;refine z2.ld 1 (o:=1) (l:=.sl) (x:=s) ?_;by_cases c1:D.length=0
 .rw[if_pos (by rw[l1];simpa using c1),if_pos c1];refine z2.ld 1 (o:=1) (l:=.sl) (x:=s) (z2.ld 0 (o:=1) (l:=.sl) (x:=s') (ag.2 ⟨?_,z2.fr⟩));rw[l1,l2]
 rw[if_neg (by rw[l1];simpa using c1),if_neg c1];refine z2.ld 0 (o:=1) (l:=.sl) (x:=s') ?_;by_cases c2:D'.length=0
 .rw[if_pos (by rw[l2];simpa using c2),if_pos c2];refine z2.ld 1 (o:=1) (l:=.sl) (x:=s) (z2.ld 0 (o:=1) (l:=.sl) (x:=s') (ag.2 ⟨?_,z2.fr⟩));rw[l1,l2]
 rw[if_neg (by rw[l2];simpa using c2),if_neg c2];unfold mN;refine z2.ld 1 (o:=1) (l:=.sl) (x:=s) (z2.ld 1 (o:=2) (x:=e) (z2.ld 0 (o:=1) (l:=.sl) (x:=s') (z2.ld 0 (o:=2) (x:=e') ?_)));rw[l1,l2];by_cases c3:wi (wi (wi (D.length+e)-D'.length)-e')=0
 .rw[if_neg (by simpa using c3),if_pos c3];refine z2.ld 1 (o:=1) (l:=.sl) (x:=s) (z2.ld 0 (o:=1) (l:=.sl) (x:=s') ?_);rw[l1,l2];have em:(if (D.length:Int)<(D'.length:Int) then (D'.length:Int) else (D.length:Int))=((max D.length D'.length:Nat):Int):=by
   split<;>omega
  have em':(if decide ((D.length:Int)<(D'.length:Int))=true then (D'.length:Int) else (D.length:Int))=((max D.length D'.length:Nat):Int):=by
   rw[<-em];simp
  rw[ah];have key:=ac3 (m:=max D.length D'.length) (by omega) n (max D.length D'.length) 0 h2 (by omega) (by omega) (by omega) b2 b2' z2;have fin:∀r h3,(Fr (λ_=>False) h2 h3/\(r=.inr (LS D D' (max D.length D'.length) 0)\/r=.inl ()/\LS D D' (max D.length D'.length) 0=0)) ->
    Wp (cw (λ(_:Unit)=>(AI 0:M Int)) (λx6=>AI x6) r) h3 λr h'=>r=LS D D' (max D.length D'.length) 0/\Fr (λ_=>False) h h':=λr h3 hr=>by
   obtain⟨f3,hr⟩:=hr;rcases hr with rfl|⟨rfl,e⟩
   .exact ag.2 ⟨rfl,gZ hw z2.fr f3⟩
   .rw[e];exact ag.2 ⟨rfl,gZ hw z2.fr f3⟩
  first
   |(rw[em];exact key.mono fin)
   |(rw[em'];exact key.mono fin)
 .rw[if_pos (by simpa using c3),if_neg c3];exact ag.2 ⟨rfl,z2.fr⟩
def sgn (x:Int):Int:=if x<0 then -1 else if 0<x then 1 else 0
def ac5 (N M:Bool×List Int×Int):Int:=
 if N.1≠M.1 then (if N.1 then -1 else 1) else if N.1 then wi (0-sgn (Wj N.2.1 N.2.2 M.2.1 M.2.2)) else sgn (Wj N.2.1 N.2.2 M.2.1 M.2.2)
theorem Y9 {x y:Bool×Sl×Int}{N M:Bool×List Int×Int}{n:Nat}(hw:WF h)(dx:Dh N h x)(dy:Dh M h y)(hn:N.2.1.length<n/\M.2.1.length<n) :
  Wp (oT n x y) h λr h'=>r=ac5 N M/\Fr (λ_=>False) h h':=by
 obtain⟨x1,x2,x3⟩:=x;obtain⟨y1,y2,y3⟩:=y;obtain⟨N1,N2,N3⟩:=N;obtain⟨M1,M2,M3⟩:=M;obtain⟨rfl,rfl,q1,g1,_,bx⟩:=dx;obtain⟨rfl,rfl,q2,g2,_,by'⟩:=dy;simp only at q1 q2 bx by' hn
 unfold oT ac5;refine (Z.start hw).new λa h1 z1 f1=>?_;refine z1.new λb h2 z2 f2=>?_;have b2:=(bx.fr f1).fr f2;have b2':=(by'.fr f1).fr f2;refine z2.ld 1 (o:=0) (x:=x1) (z2.ld 0 (o:=0) (x:=y1) ?_);by_cases hb:x1=y1
 .subst hb;rw[if_neg (by cases x1<;>decide),if_neg (by simp)];refine z2.fI 1 (x:=((x1,x2,x3):bN [.bool,.sl,li])) ?_;refine z2.fI 0 (x:=((x1,y2,y3):bN [.bool,.sl,li])) ?_;refine z2.call (P:=λr _=>r=Wj N2 x3 M2 y3) (ac4 z2.wf b2 b2' q1 q2 hn) λr h3 hr f3 z3=>?_;subst hr;have hs:∀(v:Int) (h:af) (Q:Int->af->Prop),Q (sgn v) h->Wp (rO n v) h Q:=λv h Q q=>by
   unfold rO;unfold sgn at q;by_cases c1:v<0
   .rw[if_pos (by simpa using c1)];rw[if_pos c1] at q;exact ag.2 q
   .rw[if_neg (by simpa using c1)];rw[if_neg c1] at q;by_cases c2:0<v
    .rw[if_pos (by simpa using c2)];rw[if_pos c2] at q;exact ag.2 q
    .rw[if_neg (by simpa using c2)];rw[if_neg c2] at q;exact ag.2 q
  rw[ah];refine hs _ _ _ ?_;refine z3.ld 1 (o:=0) (x:=x1) ?_;cases x1 with
  |true=>exact ag.2 ⟨rfl,z3.fr⟩
  |false=>exact ag.2 ⟨rfl,z3.fr⟩
 .rw[if_pos (by cases x1<;>cases y1<;>simp_all),if_pos hb];refine z2.ld 1 (o:=0) (x:=x1) ?_;cases x1 with
  |true=>exact ag.2 ⟨rfl,z2.fr⟩
  |false=>exact ag.2 ⟨rfl,z2.fr⟩
def Ou (s t:ByteArray):Int:=if Fk s=false then 0 else if Fk t=false then 0 else ac5 (wG s) (wG t)
theorem Dh.fr {N:Bool×List Int×Int}{x:Bool×Sl×Int}{X:Nat->Prop}(d:Dh N h x)(f:Fr X h h')(hx:∀g,g<=h.next->X g->g=0):Dh N h' x:=by
 obtain⟨a,b,c,g,hg,bl⟩:=d;exact⟨a,b,c,g,abU hg f.next,qy.fr bl f (hx g hg)⟩
theorem Wl {s:ByteArray}{i:Nat}{e:Int}:(numOf s i e).2.1.length<=s.size:=by
 have h1:=Fl (s.data.toList.head?==some 45) (wT (wU s i)) e;have h2:(wT (wU s i)).length=(wU s i).size:=qo _;have h3:(wU s i).size<=(s.extract 0 i).size:=by
  show (Lib.trimPrefix (s.extract 0 i).data.toList [45]).toArray.size<=_;have h1:=Jk (s.extract 0 i).data.toList [45];rw[afT];exact h1
 have h4:=BZ s 0 i;unfold numOf;omega
theorem G9 (s:ByteArray):(wG s).2.1.length<=s.size:=by
 unfold wG;split
 .exact Wl
 .exact agx _
theorem FA {s t:ByteArray}{n:Nat}(hs:s.size<=65536)(ht:t.size<=65536)(hn:s.size+1<n/\t.size+1<n)(hw:WF h):Wp (uI n s t) h λr h'=>r=Ou s t/\Fr (λ_=>False) h h':=by
 unfold uI;rw[ah];refine (sR hs hn.1 hw).mono λx h1 hx=>?_;obtain⟨x1,fx,x2⟩:=hx;refine Z.Y8 (Z.start fx.wf) λh2 z2 f2=>?_;refine z2.G5 0 (cs':=[.bool x.1.1,aE x.1.2.1,vi x.1.2.2]) λh3 z3 _=>?_;rw[ah];refine (sR ht hn.2 z3.wf).mono λy h4 hy=>?_;obtain⟨y1,fy,y2⟩:=hy;have z4:=z3.pure fy;refine z4.Y8 λh5 z5 f5=>?_;refine z5.G5 0 (cs':=[.bool y.1.1,aE y.1.2.1,vi y.1.2.2]) λh6 z6 f6=>?_;have f1:Fr (λ_=>False) h h6:=gZ hw fx z6.fr;unfold Ou;rw[x1];cases ex:Fk s with
 |false=>rw[Fv,if_pos rfl];exact ag.2 ⟨rfl,f1⟩
 |true=>
 rw[Fw,if_neg (show ¬(true=false) by decide),y1];cases ey:Fk t with
 |false=>rw[Fv,if_pos rfl];exact ag.2 ⟨rfl,f1⟩
 |true=>
 rw[Fw,if_neg (show ¬(true=false) by decide)];have dx:Dh (wG s) h6 x.1:=(x2 (by rw[x1,ex])).fr z6.fr λ_ _ x=>x.elim;have dy5:Dh (wG t) h5 y.1:=(y2 (by rw[y1,ey])).fr f5 λ_ _ x=>x.elim;have dy:Dh (wG t) h6 y.1:=by
  obtain⟨a,b,c,g,hg,bl⟩:=y2 (by rw[y1,ey]);exact⟨a,b,c,g,abU hg (abU f5.next f6.next),qy.fr (qy.fr bl f5 λx=>x.elim) f6 λe=>by omega⟩
 refine z6.fI 1 (x:=((x.1.1,x.1.2.1,x.1.2.2):bN [.bool,.sl,li])) ?_;refine z6.fI 0 (x:=((y.1.1,y.1.2.1,y.1.2.2):bN [.bool,.sl,li])) ?_;rw[ah];have q1:=G9 s;have q2:=G9 t;refine (Y9 z6.wf dx dy (by omega)).mono λr h7 hr=>ag.2 ⟨hr.1,gZ hw f1 hr.2⟩
noncomputable def A6 (s:ByteArray):Nat×Bool:=if hs:s.size<=65536 then (B4 hs).choose else (0,false)
theorem LU {s:ByteArray}{n:Nat}(hs:s.size<=65536)(hw:WF h):Wp (lR n s) h λx h'=>x=A6 s/\Fr (λ_=>False) h h':=by
 unfold A6;rw[dif_pos hs];exact (B4 hs).choose_spec n h hw
noncomputable def SA (s t:ByteArray):Int×Bool:=
 if (A6 s).2=false then (0,false) else if (A6 t).2=false then (0,false) else if FU (A6 s).1 (A6 s).1=false then (0,false) else if FU (A6 t).1 (A6 t).1=false then (0,false)
 else if Xk (A6 s).1 (A6 t).1 then (-1,true) else if Xa (A6 s).1 (A6 t).1 then (1,true) else (0,true)
theorem Gw {s t:ByteArray}{n:Nat}(hs:s.size<=65536)(ht:t.size<=65536)(hw:WF h):Wp (wu n s t) h λr h'=>r=SA s t/\Fr (λ_=>False) h h':=by
 unfold wu;rw[ah];refine (LU hs hw).mono λx h1 hx=>?_;obtain⟨rfl,fx⟩:=hx;rw[ah];refine (LU ht fx.wf).mono λy h2 hy=>?_;obtain⟨rfl,fy⟩:=hy;have f:=gZ hw fx fy;unfold SA u4;generalize A6 s=x;generalize A6 t=y;obtain⟨x1,x2⟩:=x;obtain⟨y1,y2⟩:=y;cases x2
 .exact ag.2 ⟨rfl,f⟩
 cases y2
 .exact ag.2 ⟨rfl,f⟩
 simp only[agh,aa1,if_false];cases FU x1 x1
 .exact ag.2 ⟨rfl,f⟩
 simp only[agh,aa1,if_false];cases FU y1 y1
 .exact ag.2 ⟨rfl,f⟩
 simp only[agh,aa1,if_false];cases Xk x1 y1
 .simp only[aa1,if_false];cases Xa x1 y1
  .exact ag.2 ⟨rfl,f⟩
  .exact ag.2 ⟨rfl,f⟩
 .exact ag.2 ⟨rfl,f⟩
noncomputable def SB (kind:Int)(s t:ByteArray):Int:=
 if mI s t then 0 else if kind=2 then ac1 s t else if kind=3 then Ou s t else if kind=4 then
  (if mI s (ofBytes [110,97,110]) then 1 else if mI t (ofBytes [110,97,110]) then -1 else if (SA s t).1≠0 then (SA s t).1 else if mI s (ofBytes [45,48,112,48]) then -1 else 1)
 else X3 s t
theorem Wm {kind:Int}{s t:ByteArray}{n:Nat}(hs:s.size<=65536)(ht:t.size<=65536)(hn:s.size+1<n/\t.size+1<n)(hw:WF h):Wp (ta n kind s t) h λr h'=>r=SB kind s t/\Fr (λ_=>False) h h':=by
 unfold ta SB;cases mI s t
 .simp only[aa1,if_false];by_cases k2:kind=2
  .rw[if_pos (by simpa using k2),if_pos k2,ah];exact (Fy hs ht hn hw).mono λr h1 hr=>ag.2 hr
  rw[if_neg (by simpa using k2),if_neg k2];by_cases k3:kind=3
  .rw[if_pos (by simpa using k3),if_pos k3,ah];exact (FA hs ht hn hw).mono λr h1 hr=>ag.2 hr
  rw[if_neg (by simpa using k3),if_neg k3];by_cases k4:kind=4
  .rw[if_pos (by simpa using k4),if_pos k4];cases mI s (ofBytes [110,97,110])
   .simp only[aa1,if_false];cases mI t (ofBytes [110,97,110])
    .simp only[aa1,if_false];rw[ah];refine (Gw hs ht hw).mono λr h1 hr=>?_;obtain⟨rfl,f⟩:=hr;by_cases hc:(SA s t).1=0
     .rw[if_neg (by simpa using hc),if_neg (show ¬((SA s t).1≠0) from λx=>x hc)];cases mI s (ofBytes [45,48,112,48])
      .exact ag.2 ⟨rfl,f⟩
      .exact ag.2 ⟨rfl,f⟩
     .rw[if_pos (by simpa using hc),if_pos hc];exact ag.2 ⟨rfl,f⟩
    .exact ag.2 ⟨rfl,Fr.refl hw⟩
   .exact ag.2 ⟨rfl,Fr.refl hw⟩
  rw[if_neg (by simpa using k4),if_neg k4];unfold strings_Compare ln dK;simp only[ah,ag];exact⟨trivial,Fr.refl hw⟩
 .exact ag.2 ⟨rfl,Fr.refl hw⟩
end
end Go.Sh
