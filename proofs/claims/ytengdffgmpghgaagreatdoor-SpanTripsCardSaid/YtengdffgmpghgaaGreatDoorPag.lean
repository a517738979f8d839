
import Derived.Test.YtengdffgmpghgaaGreatDoorPab
set_option linter.all false
namespace Go.Sh
open Go Go.Ago Go.Proofs
section
variable {α β:Type}{h h' h0:ab}{L:List bA}{Q:β->ab->Prop}
theorem Hu {γ:Type}{a b:γ}:(if (!false)=true then a else b)=a:=rfl
theorem Hv {γ:Type}{a b:γ}:(if (!true)=true then a else b)=b:=rfl
theorem acH {γ:Type}{a b:γ}:(if true=true then a else b)=a:=rfl
theorem ahk {γ:Type}{a b:γ}:(if false=true then a else b)=b:=rfl
theorem NR.bl {ng:Bool}{t:ζ}{x:Bool×Sl}(r:NR h h' ng t x):x.1=ng/\∃g,h.next<g/\BL h' x.2 (Io t) g/\(WF h'->g<=h'.next):=by
 obtain⟨r1,bd,c,r2,r3,l⟩:=r;refine⟨r1,bd+1,by omega,?_,λhw=>hw.eJ _ _ _ _ _ l.get⟩;have hk:=Hd (yA t).reverse t.size;have hl:(yA t).reverse.length=t.size:=by rw[ajS,rh]
 rw[r3];refine⟨by unfold Io;simp[rh];omega,.inr ⟨_,rfl,rfl,_,0,gH,l.get,?_,?_⟩⟩
 .unfold Io;simp[rh];exact Nat.min_le_right _ _
 .unfold Io;simp[rh,List.map_take,hk]
def Hw (D E:ε):Nat->Int
 |0=>0
 |k+1=>if D.getD k 0=E.getD k 0 then Hw D E k else if D.getD k 0<E.getD k 0 then -1 else 1
def SZ (D E:ε):Int:=if D.length≠E.length then (if D.length<E.length then -1 else 1) else Hw D E D.length
theorem VF {s t:Sl}{D E:ε}{g k:Nat}(h1:BL h s D g)(h2:BL h t E k)(hD:D.length<=65536):∀(n i:Nat),i<n->i<=D.length->i<=E.length ->
  Wp (kp n s t ((i:Int)-1)) h λr h'=>h'=h/\(r=.inr (Hw D E i)\/r=.inl ()/\Hw D E i=0):=by
 intro n
 induction n with
 |zero=>intro i hi;omega
 |succ n ih=>
  intro i hi hd he;rw[zL];unfold qQ;cases i with
  |zero=>
   rw[AT (by simp)];exact af.2 ⟨rfl,.inr ⟨rfl,rfl⟩⟩
  |succ i=>
   rw[show (((i+1:Nat):Int)-1)=(i:Int) by omega];obtain⟨d,hd1⟩:=dS (l:=D) (i:=i) (by omega);obtain⟨e,he1⟩:=dS (l:=E) (i:=i) (by omega);rw[By (by simp)];have gd:D.getD i 0=d:=by rw[afS,hd1];rfl
   have ge:E.getD i 0=e:=by rw[afS,he1];rfl
   refine rO.ix1 (enc:=v8) h1 (by omega) (by simpa using hd1) λa ca=>?_;refine rO.ix1 (enc:=v8) h2 (by omega) (by simpa using he1) λb cb=>?_;refine ca.rz (l:=.int .u8) rfl rfl (cb.rz (l:=.int .u8) rfl rfl ?_);unfold Hw;rw[gd,ge];by_cases hde:d=e
   .rw[AT (by simpa using hde),By hde,tA (by omega) (by omega)];exact ih i (by omega) (by omega) (by omega)
   .rw[By (by simpa using hde),AT hde];refine rO.ix1 (enc:=v8) h1 (by omega) (by simpa using hd1) λa ca=>?_;refine rO.ix1 (enc:=v8) h2 (by omega) (by simpa using he1) λb cb=>?_;refine ca.rz (l:=.int .u8) rfl rfl (cb.rz (l:=.int .u8) rfl rfl ?_);by_cases hlt:d<e
    .rw[By (by simpa using hlt),By hlt];exact af.2 ⟨rfl,.inl rfl⟩
    .rw[AT (by simpa using hlt),AT hlt];exact af.2 ⟨rfl,.inl rfl⟩
theorem S0 {s t:Sl}{D E:ε}{g k n:Nat}(h1:BL h s D g)(h2:BL h t E k)(hD:D.length<=65536)(hn:D.length<n):Wp (qR n s t) h λr h'=>r=SZ D E/\h'=h:=by
 unfold qR SZ;have l1:=h1.len;have l2:=h2.len;by_cases hl:D.length=E.length
 .rw[AT (by rw[l1,l2];simp[hl]),AT (by simpa using hl),l1,tA (by omega) (by omega),ag];refine (VF h1 h2 hD n D.length hn (aae _) (by omega)).mono λr h' hr=>?_;obtain⟨rfl,hr⟩:=hr;rcases hr with rfl|⟨rfl,e⟩
  .exact af.2 ⟨rfl,rfl⟩
  .rw[e];exact af.2 ⟨rfl,rfl⟩
 .rw[By (by rw[l1,l2];simp;omega),By hl];by_cases hlt:D.length<E.length
  .rw[By (by rw[l1,l2];simpa using hlt),By hlt];exact af.2 ⟨rfl,rfl⟩
  .rw[AT (by rw[l1,l2];simpa using hlt),AT hlt];exact af.2 ⟨rfl,rfl⟩
def S3 (x y:Bool×ε):Int:=if x.1 then (if y.1 then SZ y.2 x.2 else -1) else if y.1 then 1 else SZ x.2 y.2
def ahl (s t:ζ):Int:=if oQ s=false then 0 else if oQ t=false then 0 else S3 ((yW s).1,Io (yW s).2) ((yW t).1,Io (yW t).2)
theorem S5 (t:ζ):(Io t).length<=t.size:=by
 unfold Io;rw[afd];have:=Hd (yA t).reverse t.size;omega
theorem S6 (s:ζ):(yW s).2.size<=s.size:=by
 unfold yW;split
 .exact DU s 1 s.size
 .exact aae _
theorem ahm {b c n:Nat}{x y:Bool}{s t:Sl}{D E:ε}{g k:Nat}(z:Z h0 h [.av c [.bool y,aM t] aD,.av b [.bool x,aM s] aD])(h1:BL h s D g)(h2:BL h t E k)(hD:D.length<=65536)(hE:E.length<=65536)(hn:D.length<n/\E.length<n) :
  Wp (qS n (ai b) (ai c)) h λr h'=>r=S3 (x,D) (y,E)/\Fr (λ_=>False) h0 h':=by
 have J1:x=y->Wp (jK n (ai b) (ai c)) h λr h'=>r=S3 (x,D) (y,E)/\Fr (λ_=>False) h0 h':=λe=>by
  subst e;unfold jK S3;refine z.ld 1 (o:=0) ?_;cases x with
  |true=>
   refine z.ld 0 (o:=1) (z.ld 1 (o:=1) ?_);rw[ag];exact (S0 h2 h1 hE hn.2).mono λr h' hr=>af.2 ⟨hr.1,hr.2▸z.fr⟩
  |false=>
   refine z.ld 1 (o:=1) (z.ld 0 (o:=1) ?_);rw[ag];exact (S0 h1 h2 hD hn.1).mono λr h' hr=>af.2 ⟨hr.1,hr.2▸z.fr⟩
 unfold qS;cases x with
 |true=>
  refine z.ld 1 (o:=0) (x:=true) ?_;rw[acH];refine z.ld 0 (o:=0) (x:=y) ?_;cases y with
  |true=>
   rw[Hv];refine z.ld 1 (o:=0) (x:=true) ?_;rw[Hv];exact J1 rfl
  |false=>rw[Hu];exact af.2 ⟨rfl,z.fr⟩
 |false=>
  refine z.ld 1 (o:=0) (x:=false) ?_;rw[ahk];refine z.ld 1 (o:=0) (x:=false) ?_;rw[Hu];refine z.ld 0 (o:=0) (x:=y) ?_;cases y with
  |true=>rw[acH];exact af.2 ⟨rfl,z.fr⟩
  |false=>rw[ahk];exact J1 rfl
theorem _root_.Go.Ago.Z.acI (z:Z h0 h L){e:κ}{cs:δ}{f:Nat->M β}(q:∀h',Z h0 h' (.av h.next cs e::L)->Fr (λ_=>False) h h'->Wp (f h.next) h' Q)(hs:cs.all eB=true:=by rfl):Wp (sh (aJ none e cs) f) h Q:=by
 rw[ag,Bi];have hf:=Fr.new (e:=e) (cs:=cs) z.wf;exact⟨hs,q _ (z.add hf (o:=.av h.next cs e) LB.new (.inr (aad _))) hf⟩
theorem Hx {s t:ζ}{n:Nat}(hs:s.size<=65536)(ht:t.size<=65536)(hn:s.size+1<n/\t.size+1<n)(hw:WF h):Wp (vS n s t) h λr h'=>r=ahl s t/\Fr (λ_=>False) h h':=by
 unfold vS;rw[ag];refine (tS hs hn.1 hw).mono λx h1 hx=>?_;obtain⟨x1,fx,x2⟩:=hx;refine Z.acI (Z.start fx.wf) λh2 z2 _=>?_;refine z2.Ai 0 (cs':=[.bool x.1.1,aM x.1.2]) λh3 z3 _=>?_;rw[ag];refine (tS ht hn.2 z3.wf).mono λy h4 hy=>?_;obtain⟨y1,fy,y2⟩:=hy;have z4:=z3.pure fy;refine z4.acI λh5 z5 f5=>?_;refine z5.Ai 0 (cs':=[.bool y.1.1,aM y.1.2]) λh6 z6 f6=>?_;have f1:Fr (λ_=>False) h h6:=iA hw fx z6.fr;unfold ahl;rw[x1];cases ex:oQ s with
 |false=>rw[Hu,By rfl];exact af.2 ⟨rfl,f1⟩
 |true=>
 rw[Hv,AT (show ¬(true=false) by decide),y1];cases ey:oQ t with
 |false=>rw[Hu,By rfl];exact af.2 ⟨rfl,f1⟩
 |true=>
 rw[Hv,AT (show ¬(true=false) by decide)];obtain⟨xn,gx,_,bx,_⟩:=(x2 (by rw[x1,ex])).bl;obtain⟨yn,gy,_,by',hgy⟩:=(y2 (by rw[y1,ey])).bl;have hgy:=hgy z4.wf;have bx6:BL h6 x.1.2 (Io (yW s).2) gx:=bx.fr z6.fr;have by6:BL h6 y.1.2 (Io (yW t).2) gy:=rO.fr (by'.fr f5) f6 λe=>by omega
 have lx:=(S5 (yW s).2);have ly:=(S5 (yW t).2);have mx:=S6 s;have my:=S6 t;rw[<-xn,<-yn];exact (ahm z6 bx6 by6 (by omega) (by omega) (by omega)).mono λr h' hr=>⟨hr.1,iA hw fx hr.2⟩
end
section
variable {α β:Type}{h h' h0:ab}{L:List bA}{Q:β->ab->Prop}
theorem S7 {b:Bool}{s:Sl}{e:Int}{D:ε}{g n i:Nat}(hw:WF h)(bl:BL h s D g):Wp (eN n (b,s,e) (i:Int)) h λr h'=>r=D.getD i 0/\Fr (λ_=>False) h h':=by
 unfold eN;refine (Z.start hw).new λx0 h1 z1 f1=>?_;refine z1.ld 0 (o:=1) (l:=.sl) (x:=s) ?_;have hl:=bl.len;by_cases hi:i<D.length
 .rw[By (by rw[hl];simpa using hi)];refine z1.ld 0 (o:=1) (l:=.sl) (x:=s) ?_;obtain⟨d,hd⟩:=dS (l:=D) (i:=i) hi;have gd:D.getD i 0=d:=by rw[afS,hd];rfl
  refine rO.ix1 (enc:=v8) (bl.fr f1) (by omega) (by simpa using hd) λa ca=>?_;refine ca.rz (l:=.int .u8) rfl rfl (af.2 ⟨gd.symm,z1.fr⟩)
 .rw[AT (by rw[hl];simpa using hi)];have gd:D.getD i 0=0:=by grind
  exact af.2 ⟨gd.symm,z1.fr⟩
abbrev wi (x:Int):Int:=IntKind.i64.wrap x
def Zt (D E:ε)(i:Nat):Int:=wi (wi (D.getD i 0)-wi (E.getD i 0))
def On (D E:ε):Nat->Nat->Int
 |0,_=>0
 |k+1,i=>if Zt D E i=0 then On D E k (i+1) else Zt D E i
def Zu (D:ε)(e:Int)(D':ε)(e':Int):Int:=
 if D.length=0 then wi (D.length-D'.length) else if D'.length=0 then wi (D.length-D'.length)
 else if wi (wi (wi (D.length+e)-D'.length)-e')=0 then On D D' (max D.length D'.length) 0 else wi (wi (wi (D.length+e)-D'.length)-e')
abbrev dc (b:Bool)(s:Sl)(e:Int):δ:=[.bool b,aM s,vi e]
theorem ahn {x0 x1:Nat}{b b':Bool}{s s':Sl}{e e':Int}{D D':ε}{g g' m:Nat}(hm:m<=65536):∀(n k i:Nat) (h:ab),m-i<n->i<=m->k=m-i->BL h s D g->BL h s' D' g' ->
  Z h0 h (.av x1 (dc b' s' e') bT::.av x0 (dc b s e) bT::L) ->
  Wp (fK n (ai x0) (ai x1) (Value.func (Fn.func jf) #[] #[]) (m:Int) (i:Int)) h λr h'=>Fr (λ_=>False) h h'/\(r=.inr (On D D' k i)\/r=.inl ()/\On D D' k i=0):=by
 intro n
 induction n with
 |zero=>intro k i h h1;omega
 |succ n ih=>
  intro k i h h1 h2 hk bl bl' z;rw[vk];unfold lW;by_cases hi:i<m
  .rw[By (by simpa using hi)];obtain⟨k,rfl⟩:∃k',k=k'+1:=⟨k-1,by omega⟩;refine z.fG 1 (x:=((b,s,e):eI [.bool,.sl,li])) ?_;refine z.fG 0 (x:=((b',s',e'):eI [.bool,.sl,li])) ?_;unfold mG mH;rw[By (by rfl)];refine z.NW 0 (P:=λr=>r=D.getD i 0) ?_ λr h3 hr f3 z3=>?_
   .rw[ag];refine kr (c:=()) rfl ?_;exact S7 z.wf bl
   subst hr;refine z3.call (P:=λr _=>r=D'.getD i 0) ?_ λr h4 hr f4 z4=>?_
   .rw[By (by rfl),ag];refine kr (c:=()) rfl ?_;exact S7 z3.wf (bl'.fr f3)
   subst hr;have f34:=iA z.wf f3 f4;show Wp (if (!decide (Zt D D' i=0))=true then AI (Sum.inr (Zt D D' i)) else _) h4 _;unfold On;by_cases h0:Zt D D' i=0
   .rw[AT (by simpa using h0),By h0,tA (by omega) (by omega)];exact (ih k (i+1) h4 (by omega) (by omega) (by omega) (bl.fr f34) (bl'.fr f34) z4).mono λr h5 hr=>⟨iA z.wf f34 hr.1,hr.2⟩
   .rw[By (by simpa using h0),AT h0];exact af.2 ⟨f34,.inl rfl⟩
  .rw[AT (by simpa using hi)];obtain rfl:k=0:=by omega
   exact af.2 ⟨Fr.refl z.wf,.inr ⟨rfl,rfl⟩⟩
theorem aho {b b':Bool}{s s':Sl}{e e':Int}{D D':ε}{g g' n:Nat}(hw:WF h)(bl:BL h s D g)(bl':BL h s' D' g')(hD:D.length<=65536)(hD':D'.length<=65536)(hn:D.length<n/\D'.length<n) :
  Wp (mI n (b,s,e) (b',s',e')) h λr h'=>r=Zu D e D' e'/\Fr (λ_=>False) h h':=by
 unfold mI Zu;have l1:=bl.len;have l2:=bl'.len;refine (Z.start hw).new λx0 h1 z1 f1=>?_;refine z1.new λx1 h2 z2 f2=>?_;have b2:=(bl.fr f1).fr f2;have b2':=(bl'.fr f1).fr f2;refine z2.ld 1 (o:=1) (l:=.sl) (x:=s) ?_;by_cases c1:D.length=0
 .rw[By (by rw[l1];simpa using c1),By c1];refine z2.ld 1 (o:=1) (l:=.sl) (x:=s) (z2.ld 0 (o:=1) (l:=.sl) (x:=s') (af.2 ⟨?_,z2.fr⟩));rw[l1,l2]
 rw[AT (by rw[l1];simpa using c1),AT c1];refine z2.ld 0 (o:=1) (l:=.sl) (x:=s') ?_;by_cases c2:D'.length=0
 .rw[By (by rw[l2];simpa using c2),By c2];refine z2.ld 1 (o:=1) (l:=.sl) (x:=s) (z2.ld 0 (o:=1) (l:=.sl) (x:=s') (af.2 ⟨?_,z2.fr⟩));rw[l1,l2]
 rw[AT (by rw[l2];simpa using c2),AT c2];unfold nF;refine z2.ld 1 (o:=1) (l:=.sl) (x:=s) (z2.ld 1 (o:=2) (x:=e) (z2.ld 0 (o:=1) (l:=.sl) (x:=s') (z2.ld 0 (o:=2) (x:=e') ?_)));rw[l1,l2];by_cases c3:wi (wi (wi (D.length+e)-D'.length)-e')=0
 .rw[AT (by simpa using c3),By c3];refine z2.ld 1 (o:=1) (l:=.sl) (x:=s) (z2.ld 0 (o:=1) (l:=.sl) (x:=s') ?_);rw[l1,l2];have em:(if (D.length:Int)<(D'.length:Int) then (D'.length:Int) else (D.length:Int))=((max D.length D'.length:Nat):Int):=by
   split<;>omega
  have em':(if decide ((D.length:Int)<(D'.length:Int))=true then (D'.length:Int) else (D.length:Int))=((max D.length D'.length:Nat):Int):=by
   rw[<-em];simp
  rw[ag];have key:=ahn (m:=max D.length D'.length) (by omega) n (max D.length D'.length) 0 h2 (by omega) (by omega) (by omega) b2 b2' z2;have fin:∀r h3,(Fr (λ_=>False) h2 h3/\(r=.inr (On D D' (max D.length D'.length) 0)\/r=.inl ()/\On D D' (max D.length D'.length) 0=0)) ->
    Wp (bu (λ(_:Unit)=>(AI 0:M Int)) (λx6=>AI x6) r) h3 λr h'=>r=On D D' (max D.length D'.length) 0/\Fr (λ_=>False) h h':=λr h3 hr=>by
   obtain⟨f3,hr⟩:=hr;rcases hr with rfl|⟨rfl,e⟩
   .exact af.2 ⟨rfl,iA hw z2.fr f3⟩
   .rw[e];exact af.2 ⟨rfl,iA hw z2.fr f3⟩
  first
   |(rw[em];exact key.mono fin)
   |(rw[em'];exact key.mono fin)
 .rw[By (by simpa using c3),AT c3];exact af.2 ⟨rfl,z2.fr⟩
def sgn (x:Int):Int:=if x<0 then -1 else if 0<x then 1 else 0
def ahp (N M:Bool×ε×Int):Int:=
 if N.1≠M.1 then (if N.1 then -1 else 1) else if N.1 then wi (0-sgn (Zu N.2.1 N.2.2 M.2.1 M.2.2)) else sgn (Zu N.2.1 N.2.2 M.2.1 M.2.2)
theorem acJ {x y:Bool×Sl×Int}{N M:Bool×ε×Int}{n:Nat}(hw:WF h)(dx:E8 N h x)(dy:E8 M h y)(hn:N.2.1.length<n/\M.2.1.length<n) :
  Wp (pF n x y) h λr h'=>r=ahp N M/\Fr (λ_=>False) h h':=by
 obtain⟨x1,x2,x3⟩:=x;obtain⟨y1,y2,y3⟩:=y;obtain⟨N1,N2,N3⟩:=N;obtain⟨M1,M2,M3⟩:=M;obtain⟨rfl,rfl,q1,g1,_,bx⟩:=dx;obtain⟨rfl,rfl,q2,g2,_,by'⟩:=dy;simp only at q1 q2 bx by' hn
 unfold pF ahp;refine (Z.start hw).new λa h1 z1 f1=>?_;refine z1.new λb h2 z2 f2=>?_;have b2:=(bx.fr f1).fr f2;have b2':=(by'.fr f1).fr f2;refine z2.ld 1 (o:=0) (x:=x1) (z2.ld 0 (o:=0) (x:=y1) ?_);by_cases hb:x1=y1
 .subst hb;rw[AT (by cases x1<;>decide),AT (by simp)];refine z2.fG 1 (x:=((x1,x2,x3):eI [.bool,.sl,li])) ?_;refine z2.fG 0 (x:=((x1,y2,y3):eI [.bool,.sl,li])) ?_;refine z2.call (P:=λr _=>r=Zu N2 x3 M2 y3) (aho z2.wf b2 b2' q1 q2 hn) λr h3 hr f3 z3=>?_;subst hr;have hs:∀(v:Int) (h:ab) (Q:Int->ab->Prop),Q (sgn v) h->Wp (sU n v) h Q:=λv h Q q=>by
   unfold sU;unfold sgn at q;by_cases c1:v<0
   .rw[By (by simpa using c1)];rw[By c1] at q;exact af.2 q
   .rw[AT (by simpa using c1)];rw[AT c1] at q;by_cases c2:0<v
    .rw[By (by simpa using c2)];rw[By c2] at q;exact af.2 q
    .rw[AT (by simpa using c2)];rw[AT c2] at q;exact af.2 q
  rw[ag];refine hs _ _ _ ?_;refine z3.ld 1 (o:=0) (x:=x1) ?_;cases x1 with
  |true=>exact af.2 ⟨rfl,z3.fr⟩
  |false=>exact af.2 ⟨rfl,z3.fr⟩
 .rw[By (by cases x1<;>cases y1<;>simp_all),By hb];refine z2.ld 1 (o:=0) (x:=x1) ?_;cases x1 with
  |true=>exact af.2 ⟨rfl,z2.fr⟩
  |false=>exact af.2 ⟨rfl,z2.fr⟩
def Q6 (s t:ζ):Int:=if DT s=false then 0 else if DT t=false then 0 else ahp (ye s) (ye t)
theorem E8.fr {N:Bool×ε×Int}{x:Bool×Sl×Int}{X:Nat->Prop}(d:E8 N h x)(f:Fr X h h')(hx:∀g,g<=h.next->X g->g=0):E8 N h' x:=by
 obtain⟨a,b,c,g,hg,bl⟩:=d;exact⟨a,b,c,g,abi hg f.next,rO.fr bl f (hx g hg)⟩
theorem Zv {s:ζ}{i:Nat}{e:Int}:(numOf s i e).2.1.length<=s.size:=by
 have h1:=Hg (s.data.toList.head?==some 45) (yA (yB s i)) e;have h2:(yA (yB s i)).length=(yB s i).size:=rh _;have h3:(yB s i).size<=(s.extract 0 i).size:=by
  show (Lib.trimPrefix (s.extract 0 i).data.toList [45]).toArray.size<=_;have h1:=Lz (s.extract 0 i).data.toList [45];rw[ajG];exact h1
 have h4:=DU s 0 i;unfold numOf;omega
theorem I4 (s:ζ):(ye s).2.1.length<=s.size:=by
 unfold ye;split
 .exact Zv
 .exact ajv _
theorem Hy {s t:ζ}{n:Nat}(hs:s.size<=65536)(ht:t.size<=65536)(hn:s.size+1<n/\t.size+1<n)(hw:WF h):Wp (vT n s t) h λr h'=>r=Q6 s t/\Fr (λ_=>False) h h':=by
 unfold vT;rw[ag];refine (tT hs hn.1 hw).mono λx h1 hx=>?_;obtain⟨x1,fx,x2⟩:=hx;refine Z.acI (Z.start fx.wf) λh2 z2 f2=>?_;refine z2.Ai 0 (cs':=[.bool x.1.1,aM x.1.2.1,vi x.1.2.2]) λh3 z3 _=>?_;rw[ag];refine (tT ht hn.2 z3.wf).mono λy h4 hy=>?_;obtain⟨y1,fy,y2⟩:=hy;have z4:=z3.pure fy;refine z4.acI λh5 z5 f5=>?_;refine z5.Ai 0 (cs':=[.bool y.1.1,aM y.1.2.1,vi y.1.2.2]) λh6 z6 f6=>?_;have f1:Fr (λ_=>False) h h6:=iA hw fx z6.fr;unfold Q6;rw[x1];cases ex:DT s with
 |false=>rw[Hu,By rfl];exact af.2 ⟨rfl,f1⟩
 |true=>
 rw[Hv,AT (show ¬(true=false) by decide),y1];cases ey:DT t with
 |false=>rw[Hu,By rfl];exact af.2 ⟨rfl,f1⟩
 |true=>
 rw[Hv,AT (show ¬(true=false) by decide)];have dx:E8 (ye s) h6 x.1:=(x2 (by rw[x1,ex])).fr z6.fr λ_ _ x=>x.elim;have dy5:E8 (ye t) h5 y.1:=(y2 (by rw[y1,ey])).fr f5 λ_ _ x=>x.elim;have dy:E8 (ye t) h6 y.1:=by
  obtain⟨a,b,c,g,hg,bl⟩:=y2 (by rw[y1,ey]);exact⟨a,b,c,g,abi hg (abi f5.next f6.next),rO.fr (rO.fr bl f5 λx=>x.elim) f6 λe=>by omega⟩
 refine z6.fG 1 (x:=((x.1.1,x.1.2.1,x.1.2.2):eI [.bool,.sl,li])) ?_;refine z6.fG 0 (x:=((y.1.1,y.1.2.1,y.1.2.2):eI [.bool,.sl,li])) ?_;rw[ag];have q1:=I4 s;have q2:=I4 t;refine (acJ z6.wf dx dy (by omega)).mono λr h7 hr=>af.2 ⟨hr.1,iA hw f1 hr.2⟩
noncomputable def CR (s:ζ):Nat×Bool:=if hs:s.size<=65536 then (DX hs).choose else (0,false)
theorem Oo {s:ζ}{n:Nat}(hs:s.size<=65536)(hw:WF h):Wp (mz n s) h λx h'=>x=CR s/\Fr (λ_=>False) h h':=by
 unfold CR;rw[dif_pos hs];exact (DX hs).choose_spec.2 n h hw
noncomputable def VG (s t:ζ):Int×Bool:=
 if (CR s).2=false then (0,false) else if (CR t).2=false then (0,false) else if HV (CR s).1 (CR s).1=false then (0,false) else if HV (CR t).1 (CR t).1=false then (0,false)
 else if fLt (CR s).1 (CR t).1 then (-1,true) else if fGt (CR s).1 (CR t).1 then (1,true) else (0,true)
theorem Iw {s t:ζ}{n:Nat}(hs:s.size<=65536)(ht:t.size<=65536)(hw:WF h):Wp (xX n s t) h λr h'=>r=VG s t/\Fr (λ_=>False) h h':=by
 unfold xX;rw[ag];refine (Oo hs hw).mono λx h1 hx=>?_;obtain⟨rfl,fx⟩:=hx;rw[ag];refine (Oo ht fx.wf).mono λy h2 hy=>?_;obtain⟨rfl,fy⟩:=hy;have f:=iA hw fx fy;unfold VG wF;generalize CR s=x;generalize CR t=y;obtain⟨x1,x2⟩:=x;obtain⟨y1,y2⟩:=y;cases x2
 .exact af.2 ⟨rfl,f⟩
 cases y2
 .exact af.2 ⟨rfl,f⟩
 simp only[akz,aeZ,afy];cases HV x1 x1
 .exact af.2 ⟨rfl,f⟩
 simp only[akz,aeZ,afy];cases HV y1 y1
 .exact af.2 ⟨rfl,f⟩
 simp only[akz,aeZ,afy];cases fLt x1 y1
 .simp only[aeZ,afy];cases fGt x1 y1
  .exact af.2 ⟨rfl,f⟩
  .exact af.2 ⟨rfl,f⟩
 .exact af.2 ⟨rfl,f⟩
noncomputable def VH (kind:Int)(s t:ζ):Int:=
 if mY s t then 0 else if kind=2 then ahl s t else if kind=3 then Q6 s t else if kind=4 then
  (if mY s (ofBytes [110,97,110]) then 1 else if mY t (ofBytes [110,97,110]) then -1 else if (VG s t).1≠0 then (VG s t).1 else if mY s (ofBytes [45,48,112,48]) then -1 else 1)
 else abc s t
theorem Zw {kind:Int}{s t:ζ}{n:Nat}(hs:s.size<=65536)(ht:t.size<=65536)(hn:s.size+1<n/\t.size+1<n)(hw:WF h):Wp (uz n kind s t) h λr h'=>r=VH kind s t/\Fr (λ_=>False) h h':=by
 unfold uz VH;cases mY s t
 .simp only[aeZ,afy];by_cases k2:kind=2
  .rw[By (by simpa using k2),By k2,ag];exact (Hx hs ht hn hw).mono λr h1 hr=>af.2 hr
  rw[AT (by simpa using k2),AT k2];by_cases k3:kind=3
  .rw[By (by simpa using k3),By k3,ag];exact (Hy hs ht hn hw).mono λr h1 hr=>af.2 hr
  rw[AT (by simpa using k3),AT k3];by_cases k4:kind=4
  .rw[By (by simpa using k4),By k4];cases mY s (ofBytes [110,97,110])
   .simp only[aeZ,afy];cases mY t (ofBytes [110,97,110])
    .simp only[aeZ,afy];rw[ag];refine (Iw hs ht hw).mono λr h1 hr=>?_;obtain⟨rfl,f⟩:=hr;by_cases hc:(VG s t).1=0
     .rw[AT (by simpa using hc),AT (show ¬((VG s t).1≠0) from λx=>x hc)];cases mY s (ofBytes [45,48,112,48])
      .exact af.2 ⟨rfl,f⟩
      .exact af.2 ⟨rfl,f⟩
     .rw[By (by simpa using hc),By hc];exact af.2 ⟨rfl,f⟩
    .exact af.2 ⟨rfl,Fr.refl hw⟩
   .exact af.2 ⟨rfl,Fr.refl hw⟩
  rw[AT (by simpa using k4),AT k4];unfold strings_Compare lX dN;simp only[ag,af];exact⟨trivial,Fr.refl hw⟩
 .exact af.2 ⟨rfl,Fr.refl hw⟩
end
end Go.Sh
