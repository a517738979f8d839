
import Derived.Test.YtmfkngdglbcngaaGreatDoorBnPa
set_option linter.all false
namespace Go.Sh
open Go Go.Ago Go.Proofs
section
variable {α β:Type}{h h' h0:af}{L:List bu}{Q:β->af->Prop}{N M':Nat}
def DD (N:Nat)(P:α->Prop)(m:Nat->M α):Prop:=∃x,P x/\∀n h,N<=n->WF h->Wp (m n) h λy h'=>y=x/\Fr (λ_=>False) h h'
theorem PP.dd {P:α->Prop}{m:Nat->M α}(hm:PP P m):DD N P m:=by
 obtain⟨x,hx,h1⟩:=hm;exact⟨x,hx,λn h _ hw=>⟨x,h,h1 n h,rfl,Fr.refl hw⟩⟩
theorem DD.pure {P:α->Prop}{x:α}(hx:P x):DD N P λ_=>AI x:=(PP.pure hx).dd
theorem DD.bind {P:α->Prop}{R:β->Prop}{m:Nat->M α}{f:Nat->α->M β}(hm:DD N P m)(hf:∀x,P x->DD N R λn=>f n x):DD N R λn=>sh (m n) (f n):=by
 obtain⟨x,hx,h1⟩:=hm;obtain⟨y,hy,h2⟩:=hf x hx;refine⟨y,hy,λn h hn hw=>?_⟩;show Wp (sh (m n) (f n)) h _;rw[ah];refine (h1 n h hn hw).mono λz h3 hz=>?_;obtain⟨rfl,f3⟩:=hz;exact (h2 n h3 hn f3.wf).mono λw h4 hw4=>⟨hw4.1,iC hw f3 hw4.2⟩
theorem DD.ite {P:α->Prop}{c:Prop}[Decidable c]{a b:Nat->M α}(ha:c->DD N P a)(hb:¬c->DD N P b):DD N P λn=>if c then a n else b n:=by
 by_cases hc:c
 .simp_all
 simp_all
theorem DD.mono {P P':α->Prop}{m:Nat->M α}(hm:DD N P m)(hp:∀x,P x->P' x):DD N P' m:=let ⟨x,hx,h1⟩:=hm;⟨x,hp x hx,h1⟩
theorem DD.le {P:α->Prop}{m:Nat->M α}(hm:DD N P m)(hl:N<=M'):DD M' P m:=let ⟨x,hx,h1⟩:=hm;⟨x,hx,λn h hn hw=>h1 n h (by omega) hw⟩
theorem DD.ck {b:Bool}(hb:b=true):DD N (Any:Unit->Prop) λ_=>oq b:=(PP.ck hb).dd
def DE (y:Int):Bool:=decide (y.tmod 4=0)&&(!decide (y.tmod 100=0)||decide (y.tmod 400=0))
def Hl:ε:=[0,31,28,31,30,31,30,31,31,30,31,30,31]
def mj (y m:Int):Int:=if m=2/\DE y=true then 29 else Hl.getD m.toNat 0
def qU (y:Int):Int:=IntKind.i64.wrap (IntKind.i64.wrap (IntKind.i64.wrap (IntKind.i64.wrap (365*y)+IntKind.i64.wrap ((IntKind.i64.wrap (y+3)).tdiv 4))-IntKind.i64.wrap ((IntKind.i64.wrap (y+99)).tdiv 100))+IntKind.i64.wrap ((IntKind.i64.wrap (y+399)).tdiv 400))
theorem Zp (y:Int):DD N (λb=>b=DE y) λn=>w9 n y:=by
 unfold w9 DE;refine (DD.ck (by decide)).bind λ_ _=>DD.ite (λh1=>(DD.ck (by decide)).bind λ_ _=>DD.ite (λh2=>DD.pure ?_) λh2=>(DD.ck (by decide)).bind λ_ _=>DD.pure ?_) λh1=>DD.pure ?_
 .grind
 .grind
 .simp only[OF] at h1;simp[h1]
theorem CR {y m:Int}(h1:1<=m)(h2:m<=12):DD N (λr=>r=mj y m) λn=>mB n y m:=by
 refine⟨mj y m,rfl,λn h hn hw=>?_⟩;obtain⟨lb,hlb,hl⟩:=Zp (N:=N) y;unfold mB;refine (Z.start hw).new λx0 h1' z1 f1=>?_;refine z1.st 0 (cs':=Hl.map vi) λh2' z2=>?_;have tail:∀{h3} (z3:Z h h3 [.au x0 (Hl.map vi) FM]),¬(m=2/\DE y=true)->Wp (sh (oq (decide (0<=m/\m<((13:Nat):Int)))) λ_=>sh (ar li ((an x0).plus (m.toNat*1))) λ(x4:Int)=>AI x4) h3 λy' h'=>y'=mj y m/\Fr (λ_=>False) h h':=by
  intro h3 z3 hne;rw[ah,IE];refine⟨by simp only[OF];omega,?_⟩;have hlt:m.toNat<Hl.length:=by show m.toNat<13;omega
  have e1:(Hl.map vi)[m.toNat]?=some (vi (Hl.getD m.toNat 0)):=by
   grind
  have e2:((an x0).plus (m.toNat*1))=⟨x0,m.toNat,none⟩:=by simp[Addr.plus]
  rw[e2];refine z3.ld 0 (l:=li) (x:=Hl.getD m.toNat 0) ?_ rfl e1 rfl;refine ag.2 ⟨?_,z3.fr⟩;unfold mj;rw[By hne]
 by_cases hm:m=2
 .rw[AT (by simpa using hm),ah];refine (hl n h2' hn z2.wf).mono λb h3 hb=>?_;obtain⟨rfl,f3⟩:=hb;have z3:=z2.pure f3;cases hlp:DE y with
  |true=>
   rw[hlb,AT hlp,ag];exact⟨by unfold mj;rw[AT ⟨hm,hlp⟩],z3.fr⟩
  |false=>
   rw[hlb,By (by rw[hlp];decide)];exact tail z3 λx=>by rw[hlp] at x;exact absurd x.2 (by decide)
 .rw[By (by simpa using hm)];exact tail z2 λx=>hm x.1
theorem Gg (y:Int):PP (λr=>r=qU y) λn=>sR n y:=(PP.ck (by decide)).bind λ_ _=>(PP.ck (by decide)).bind λ_ _=>(PP.ck (by decide)).bind λ_ _=>PP.pure rfl
theorem Zq (y m:Int)(hm:m<=12):∀(k:Nat) (c d:Int),1<=d->m-d<=k->DD (k+1) (Any:Int->Prop) λn=>ia n y m c d:=by
 intro k
 induction k with
 |zero=>
  intro c d hd hk;refine⟨c,trivial,λn h hn hw=>?_⟩;obtain⟨n,rfl⟩:∃m,n=m+1:=⟨n-1,by omega⟩;show Wp (ia (n+1) y m c d) h _;rw[pO];unfold mR;rw[By (by simp only[OF];omega),ag];exact⟨rfl,Fr.refl hw⟩
 |succ k ih=>
  intro c d hd hk;by_cases hdm:d<m
  .obtain⟨l,_,hl⟩:=CR (N:=0) (y:=y) (m:=d) hd (by omega);have ew:IntKind.i64.wrap (d+1)=d+1:=s6 (by omega) (by omega);obtain⟨x,_,hx⟩:=ih (IntKind.i64.wrap (c+l)) (d+1) (by omega) (by omega);refine⟨x,trivial,λn h hn hw=>?_⟩;obtain⟨n,rfl⟩:∃m,n=m+1:=⟨n-1,by omega⟩;show Wp (ia (n+1) y m c d) h _;rw[pO];unfold mR;rw[AT (by simpa using hdm),ah];refine (hl n h (by omega) hw).mono λr h1 hr=>?_;obtain⟨rfl,f1⟩:=hr;rw[ew];exact (hx n h1 (by omega) f1.wf).mono λw h4 hw4=>⟨hw4.1,iC hw f1 hw4.2⟩
  .refine⟨c,trivial,λn h hn hw=>?_⟩;obtain⟨n,rfl⟩:∃m,n=m+1:=⟨n-1,by omega⟩;show Wp (ia (n+1) y m c d) h _;rw[pO];unfold mR;rw[By (by simp only[OF];omega),ag];exact⟨rfl,Fr.refl hw⟩
theorem QH (y m d:Int):DD 20 (Any:Int×Int->Prop) λn=>xa n y m d:=by
 refine DD.ite (λ_=>DD.pure trivial) λ_=>DD.ite (λ_=>DD.pure trivial) λ_=>DD.ite (λ_=>DD.pure trivial) λh1=>DD.ite (λ_=>DD.pure trivial) λh2=>DD.ite (λ_=>DD.pure trivial) λ_=>?_;simp only[OF] at h1 h2;refine (CR (by omega) (by omega)).bind λx _=>DD.ite (λ_=>DD.pure trivial) λ_=>(Gg y).dd.bind λf _=>((Zq y m (by omega) 12 _ 1 (by omega) (by omega)).le (by omega)).bind λr _=>DD.pure trivial
theorem uX {y:Int}(h1:0<=y)(h2:y<=20000):qU y=365*y+(y+3)/4-(y+99)/100+(y+399)/400:=by
 unfold qU;rw[s6 (x:=y+3) (by omega) (by omega),s6 (x:=y+99) (by omega) (by omega),s6 (x:=y+399) (by omega) (by omega),
  aeJ (by omega),aeJ (by omega),aeJ (by omega)]
 grind [s6]
theorem Zr {y:Int}(h1:0<=y):DE y=true↔(y%4=0/\(y%100≠0\/y%400=0)):=by
 grind [DE,Int.tmod_eq_emod_of_nonneg]
def Pc (y:Int):Nat->Int
 |0=>0
 |k+1=>mj y (12-k)+Pc y k
theorem afG {y:Int}(h1:0<=y)(h2:y<=10020):qU (y+1)-qU y=Pc y 12:=by
 rw[uX (by omega) (by omega),uX (by omega) (by omega)];have hl:=Zr h1;have Kv:∀m:Int,m≠2->mj y m=Hl.getD m.toNat 0:=λm hm=>by unfold mj;rw[By (λx=>hm x.1)]
 have e:Pc y 12=337+mj y 2:=by
  show mj y 1+(mj y 2+(mj y 3+(mj y 4+(mj y 5+(mj y 6+(mj y 7+(mj y 8+(mj y 9+(mj y 10+(mj y 11+(mj y 12+0)))))))))))=_;have l1:mj y 1=31:=(Kv 1 (by decide)).trans rfl;have l3:mj y 3=31:=(Kv 3 (by decide)).trans rfl;have l4:mj y 4=30:=(Kv 4 (by decide)).trans rfl;have l5:mj y 5=31:=(Kv 5 (by decide)).trans rfl;have l6:mj y 6=30:=(Kv 6 (by decide)).trans rfl;have l7:mj y 7=31:=(Kv 7 (by decide)).trans rfl;have l8:mj y 8=31:=(Kv 8 (by decide)).trans rfl;have l9:mj y 9=30:=(Kv 9 (by decide)).trans rfl;have l10:mj y 10=31:=(Kv 10 (by decide)).trans rfl;have l11:mj y 11=30:=(Kv 11 (by decide)).trans rfl;have l12:mj y 12=31:=(Kv 12 (by decide)).trans rfl;omega
 rw[e];by_cases hlp:DE y=true
 .have:=hl.1 hlp;have e2:mj y 2=29:=by unfold mj;rw[AT ⟨rfl,hlp⟩]
  rw[e2];omega
 .have hn:¬(y%4=0/\(y%100≠0\/y%400=0)):=λx=>hlp (hl.2 x);have e2:mj y 2=28:=by unfold mj;rw[By (λx=>hlp x.2)];rfl
  rw[e2];omega
theorem Zs (d:Int)(hd:d<=3652424):∀(k:Nat) (y:Int),0<=y->y<=10009->qU y<=d->10009-y<=k->DD (k+1) (λr:Int=>0<=r/\r<=10009/\qU r<=d/\d<qU (r+1)) λn=>jn n d y:=by
 intro k
 induction k with
 |zero=>
  intro y h1 h0 h2 h3;exfalso;rw[uX h1 (by omega)] at h2;omega
 |succ k ih=>
  intro y h1 h0 h2 h3;have hy:y<10009:=by rw[uX h1 (by omega)] at h2;omega
  have ew:IntKind.i64.wrap (y+1)=y+1:=s6 (by omega) (by omega);obtain⟨f,hf,hf2⟩:=(Gg (y+1)).dd (N:=0);subst hf;by_cases hle:qU (y+1)<=d
  .obtain⟨x,hx,hx2⟩:=ih (y+1) (by omega) (by omega) hle (by omega);refine⟨x,hx,λn h hn hw=>?_⟩;obtain⟨n,rfl⟩:∃m,n=m+1:=⟨n-1,by omega⟩;show Wp (jn (n+1) d y) h _;rw[uH];unfold pD;rw[ew,ah];refine (hf2 n h (by omega) hw).mono λr h1 hr=>?_;obtain⟨rfl,f1⟩:=hr;rw[AT (by simpa using hle)];exact (hx2 n h1 (by omega) f1.wf).mono λw h4 hw4=>⟨hw4.1,iC hw f1 hw4.2⟩
  .refine⟨y,⟨h1,by omega,h2,by omega⟩,λn h hn hw=>?_⟩;obtain⟨n,rfl⟩:∃m,n=m+1:=⟨n-1,by omega⟩;show Wp (jn (n+1) d y) h _;rw[uH];unfold pD;rw[ew,ah];refine (hf2 n h (by omega) hw).mono λr h1 hr=>?_;obtain⟨rfl,f1⟩:=hr;rw[By (by simpa using hle),ag];exact⟨rfl,f1⟩
theorem Zt {y m:Int}(h1:1<=m)(h2:m<=12):0<=mj y m/\mj y m<=31:=by
 unfold mj;split
 .omega
 .have:∀k:Nat,k<=12->0<=Hl.getD k 0/\Hl.getD k 0<=31:=by decide
  exact this m.toNat (by omega)
abbrev Gh (x:Int):Prop:=-9223372036854775808<=x/\x<=9223372036854775807
theorem Zu (y:Int):∀(k:Nat) (r:Int),1<=k->k<=12->0<=r->r<=400->r<Pc y k->DD (k+1) (λx:Int×Int=>Gh x.2) λn=>jm n r y (13-k):=by
 intro k
 induction k with
 |zero=>intro r h;omega
 |succ k ih=>
  intro r h1 h2 h3 h4 h5;have hr:Pc y (k+1)=mj y (12-k)+Pc y k:=rfl;obtain⟨l,hl,hl2⟩:=CR (N:=0) (y:=y) (m:=13-((k+1:Nat):Int)) (by omega) (by omega);have em:13-((k+1:Nat):Int)=12-k:=by omega
  rw[em] at hl hl2;have hlo:=Zt (y:=y) (m:=12-k) (by omega) (by omega);rw[<-hl] at hlo hr;rw[em];by_cases hle:l<=r
  .by_cases hk:k=0
   .subst hk;have:Pc y 0=0:=rfl;omega
   have ew:IntKind.i64.wrap (r-l)=r-l:=s6 (by omega) (by omega);have ew2:IntKind.i64.wrap (12-(k:Int)+1)=13-k:=by rw[s6 (by omega) (by omega)];omega
   obtain⟨x,hxi,hx2⟩:=ih (r-l) (by omega) (by omega) (by omega) (by omega) (by omega);refine⟨x,hxi,λn h hn hw=>?_⟩;obtain⟨n,rfl⟩:∃m,n=m+1:=⟨n-1,by omega⟩;show Wp (jm (n+1) r y (12-k)) h _;rw[uG];unfold pC;rw[ah];refine (hl2 n h (by omega) hw).mono λv h1 hv=>?_;obtain⟨rfl,f1⟩:=hv;rw[AT (by simpa using hle),ah];refine (hl2 n h1 (by omega) f1.wf).mono λv h2 hv=>?_;obtain⟨rfl,f2⟩:=hv;rw[ew,ew2];exact (hx2 n h2 (by omega) f2.wf).mono λw h4 hw4=>⟨hw4.1,iC hw f1 (iC f1.wf f2 hw4.2)⟩
  .refine⟨(r,12-k),by constructor<;>simp only<;>omega,λn h hn hw=>?_⟩;obtain⟨n,rfl⟩:∃m,n=m+1:=⟨n-1,by omega⟩;show Wp (jm (n+1) r y (12-k)) h _;rw[uG];unfold pC;rw[ah];refine (hl2 n h (by omega) hw).mono λv h1 hv=>?_;obtain⟨rfl,f1⟩:=hv;rw[By (by simpa using hle),ag];exact⟨rfl,f1⟩
theorem Zv (d:Int):DD 10020 (λx:Int×Int×Int×Int=>Gh x.1/\Gh x.2.1/\Gh x.2.2.1) λn=>AG n d:=by
 refine DD.ite (λ_=>DD.pure (by decide)) λh1=>DD.ite (λ_=>DD.pure (by decide)) λh2=>?_;simp only[OF] at h1 h2;have ew:IntKind.i64.wrap (d+719528)=d+719528:=s6 (by omega) (by omega);have ew2:IntKind.i64.wrap ((d+719528).tdiv 366)=(d+719528)/366:=by
  grind [Int.tdiv_eq_ediv_of_nonneg,s6]
 unfold vI;rw[ew,ew2];refine (DD.ck (by decide)).bind λ_ _=>((Zs (d+719528) (by omega) 10009 ((d+719528)/366) (by omega) (by omega) (by rw[uX (by omega) (by omega)];omega) (by omega)).le (by omega)).bind λy hy=>(Gg y).dd.bind λf hf=>?_;have hr:=afG hy.1 (by omega);have hfl:0<=qU y:=by rw[uX hy.1 (by omega)];omega
 have h400:qU (y+1)-qU y<=400:=by grind [uX]
 subst hf;rw[s6 (x:=d+719528-qU y) (by omega) (by omega)];exact ((Zu y 12 (d+719528-qU y) (by omega) (by omega) (by omega) (by omega) (by omega)).le (by omega)).bind λx hx=>DD.pure ⟨⟨by simp only;omega,by simp only;omega⟩,hx,O8 _⟩
end
section
variable {α β:Type}{h h' h0:af}{L:List bu}{Q:β->af->Prop}{N M':Nat}
abbrev Mo:=Int×Int×Int×Int×Int×Int×Int×Int×Int×Int×Int
abbrev TW:List eN:=[li,li,li,li,li,li,li,li,li,li,.int .u8]
def mv (x:Mo):δ:=[vi x.1,vi x.2.1,vi x.2.2.1,vi x.2.2.2.1,vi x.2.2.2.2.1,vi x.2.2.2.2.2.1,vi x.2.2.2.2.2.2.1,vi x.2.2.2.2.2.2.2.1,vi x.2.2.2.2.2.2.2.2.1,vi x.2.2.2.2.2.2.2.2.2.1,v8 x.2.2.2.2.2.2.2.2.2.2]
def DM (N:Nat)(x:Mo)(P:α->Prop)(m:Nat->Nat->M α):Prop:=∃r,P r/\∀n h0 h b,N<=n->Z h0 h [.au b (mv x) bT]->Wp (m n b) h λy h'=>y=r/\Z h0 h' [.au b (mv x) bT]
variable {x:Mo}
theorem DM.pure {P:α->Prop}{r:α}(hr:P r):DM N x P λ_ _=>AI r:=⟨r,hr,λn h0 h b _ z=>ag.2 ⟨rfl,z⟩⟩
theorem DM.ite {P:α->Prop}{c:Prop}[Decidable c]{f g:Nat->Nat->M α}(ha:c->DM N x P f)(hb:¬c->DM N x P g):DM N x P λn a=>if c then f n a else g n a:=by
 by_cases hc:c
 .simp_all
 simp_all
theorem DM.dd {P:α->Prop}{R:β->Prop}{m:Nat->M α}{f:Nat->Nat->α->M β}(hm:DD N P m)(hf:∀y,P y->DM N x R λn a=>f n a y):DM N x R λn a=>sh (m n) (f n a):=by
 obtain⟨y,hy,h1⟩:=hm;obtain⟨r,hr,h2⟩:=hf y hy;refine⟨r,hr,λn h0 h b hn z=>?_⟩;show Wp (sh (m n) (f n b)) h _;rw[ah];refine (h1 n h hn z.wf).mono λw h3 hw=>?_;obtain⟨rfl,f3⟩:=hw;exact h2 n h0 h3 b hn (z.pure f3)
theorem DM.ddc {P:α->Prop}{R:β->Prop}{m:Nat->M α}{f:Nat->Nat->α->M β}{ads:Nat->List θ}(hm:DD N P m)(ha:∀b,∀a∈ads b,∀c,a=some c->c.block=b)(hf:∀y,P y->DM N x R λn a=>f n a y) :
  DM N x R λn a=>sh (Ago.mY (ads a) (m n)) (f n a):=by
 obtain⟨y,hy,h1⟩:=hm;obtain⟨r,hr,h2⟩:=hf y hy;refine⟨r,hr,λn h0 h b hn z=>?_⟩;show Wp (sh (Ago.mY (ads b) (m n)) (f n b)) h _;rw[ah];have l:LB h b _ _:=z.get 0 rfl;refine yq ((h1 n h hn z.wf).mono λw h3 hw=>?_);obtain⟨rfl,f3⟩:=hw;refine⟨λa hma=>?_,h2 n h0 h3 b hn (z.pure f3)⟩;rw[ha b _ hma a rfl,l.get];exact f3.cells _ _ _ _ _ l.get λx=>x.elim
theorem DM.ld {R:β->Prop}{o:Nat}{l:eN}{g:Nat->Addr}{v:ξ}{w:l.den}{f:Nat->Nat->l.den->M β}(hg:∀b,g b=⟨b,o,none⟩)(hv:(mv x)[o]?=some v)(hw:Al l v=some w)(hf:DM N x R λn a=>f n a w):DM N x R λn a=>sh (ar l (g a)) (f n a):=by
 obtain⟨r,hr,h2⟩:=hf;refine⟨r,hr,λn h0 h b hn z=>?_⟩;show Wp (sh (ar l (g b)) (f n b)) h _;rw[hg b];exact z.ld 0 (h2 n h0 h b hn z) rfl hv hw
theorem DM.fC {R:β->Prop}{f:Nat->Nat->Mo->M β}(hf:DM N x R λn a=>f n a x):DM N x R λn a=>sh (aN TW (an a)) (f n a):=by
 obtain⟨r,hr,h2⟩:=hf;refine⟨r,hr,λn h0 h b hn z=>?_⟩;show Wp (sh (aN TW (an b)) (f n b)) h _;exact z.fC 0 (ls:=TW) (x:=x) (h2 n h0 h b hn z)
theorem DM.ck {R:β->Prop}{c:Bool}{f:Nat->Nat->Unit->M β}(hc:c=true)(hf:DM N x R λn a=>f n a ()):DM N x R λn a=>sh (oq c) (f n a):=DM.dd (DD.ck hc) λ_ _=>hf
theorem DM.run {P:α->Prop}{m:Nat->Nat->M α}(hm:DM N x P m):DD N P λn=>sh (aM none bT (mv x)) λb=>m n b:=by
 obtain⟨r,hr,h1⟩:=hm;exact⟨r,hr,λn h hn hw=>(Z.start hw).new λb h1' z1 f1=>(h1 n h h1' b hn z1).mono λy h2 h3=>⟨h3.1,h3.2.fr⟩⟩
theorem DM.le {P:α->Prop}{m:Nat->Nat->M α}(hm:DM N x P m)(hl:N<=M'):DM M' x P m:=let ⟨r,hr,h1⟩:=hm;⟨r,hr,λn h0 h b hn z=>h1 n h0 h b (by omega) z⟩
theorem DD.cat {x y:ζ}(hs:x.size+y.size<=1000000):DD N (λz:ζ=>z.size=x.size+y.size) λ_=>kA x y:=(PP.cat (by unfold cF;omega)).dd
theorem Zw:∀(l:List UInt8) (c:Nat),(Lib.repeatL l c).length=c*l.length:=λl c=>Lib.repeatL_length l c
theorem A0 {a w:Int}(ha:Gh a)(hw:0<=w/\w<=9):DD N (λx:ζ=>x.size<=30) λn=>jo n a w:=by
 unfold jo;refine (abF ha.1 ha.2).dd.bind λx0 h0=>?_;have hc:0<=(if 0<IntKind.i64.wrap (w-(x0.size:Int)) then IntKind.i64.wrap (w-(x0.size:Int)) else 0)/\(if 0<IntKind.i64.wrap (w-(x0.size:Int)) then IntKind.i64.wrap (w-(x0.size:Int)) else 0)<=9:=by
  rw[s6 (by omega) (by omega)];split<;>omega
 generalize (if 0<IntKind.i64.wrap (w-(x0.size:Int)) then IntKind.i64.wrap (w-(x0.size:Int)) else 0)=c at hc⊢;refine DD.bind (P:=λx:ζ=>x.size<=9) ?_ λx1 h1=>(DD.cat (by omega)).bind λx2 h2=>DD.pure (by omega);unfold strings_Repeat;have h48:(ofBytes [48]).size=1:=rfl;refine (PP.ite (λ_=>PP.pure ?_) λhn=>absurd ⟨hc.1,by omega,by omega⟩ hn).dd;show (Lib.repeatL [48] c.toNat).toArray.size<=9;rw[agY,Zw];simp;omega
def A1 (x:Mo):Prop:=Gh x.2.1/\Gh x.2.2.1/\Gh x.2.2.2.1/\Gh x.2.2.2.2.1/\Gh x.2.2.2.2.2.1/\Gh x.2.2.2.2.2.2.1/\Gh x.2.2.2.2.2.2.2.2.2.1
theorem adw (l:List UInt8)(c:UInt8):(Lib.trimRightB l c).length<=l.length:=by
 grind [Lib.trimRightB,List.dropWhile_sublist]
theorem QI (hx:A1 x){s:ζ}(hs:s.size<=200):DM N x (λr:ζ=>r.size<=300) λn a=>gL n (an a) s:=by
 unfold gL;have h46:(ofBytes [46]).size=1:=rfl;refine DM.ld (o:=9) (λ_=>rfl) rfl rfl (DM.ite (λ_=>DM.ld (o:=9) (λ_=>rfl) rfl rfl (DM.dd (A0 hx.2.2.2.2.2.2 (by omega)) λx2 h2=>DM.dd (P:=λy:ζ=>y.size<=30) ?_ λx3 h3=>DM.dd (DD.cat (by omega)) λx4 h4=>DM.dd (DD.cat (by omega)) λx5 h5=>DM.pure (by omega))) λ_=>DM.pure (by omega));refine⟨⟨(Lib.trimRightB x2.data.toList 48).toArray⟩,?_,λn h _ hw=>?_⟩
 .show (Lib.trimRightB x2.data.toList 48).toArray.size<=30;have:=adw x2.data.toList 48;have h5:x2.data.toList.length=x2.size:=rfl;rw[agY];omega
 .show Wp (gI n x2 (ofBytes [48])) h _;unfold gI;show Wp (if (48:UInt8).toNat<128/\x2.size<=9223372036854775807 then AI (⟨(Lib.trimRightB x2.data.toList 48).toArray⟩:ζ) else AS) h _;rw[AT ⟨by decide,by omega⟩];exact ag.2 ⟨rfl,Fr.refl hw⟩
theorem ER (hx:A1 x){s:ζ}(hs:s.size<=100):DM N x (λr:ζ=>r.size<=300) λn a=>dS n (an a) s:=by
 unfold dS;have h58:(ofBytes [58]).size=1:=rfl;refine DM.ld (o:=0) (λ_=>rfl) rfl rfl (DM.ite (λ_=>DM.ck (by decide) (DM.ck (by decide) (DM.ck (by decide) (DM.ld (o:=4) (λ_=>rfl) rfl rfl (DM.ld (o:=5) (λ_=>rfl) rfl rfl (DM.ld (o:=6) (λ_=>rfl) rfl rfl ?_)))))) λ_=>QI hx (by omega));refine DM.ddc (ads:=λa=>[some (((an a).plus 1).plus 4),some (((an a).plus 1).plus 5)]) (A0 hx.2.2.2.1 (by omega)) (λb a hm c hc=>by grind [Addr.plus]) λx7 h7=>DM.dd (DD.cat (by omega)) λx8 h8=>?_;refine DM.ddc (ads:=λa=>[some (((an a).plus 1).plus 5)]) (A0 hx.2.2.2.2.1 (by omega)) (λb a hm c hc=>by subst hc;simp[Addr.plus] at hm;subst hm;rfl) λx9 h9=>DM.dd (DD.cat (by omega)) λx10 h10=>DM.dd (DD.cat (by omega)) λx11 h11=>?_;exact DM.dd (A0 hx.2.2.2.2.2.1 (by omega)) λx12 h12=>DM.dd (DD.cat (by omega)) λx13 h13=>DM.dd (DD.cat (by omega)) λiY h14=>QI hx (by omega)
theorem QJ (hx:A1 x):DD N (λr:ζ=>r.size<=300) λn=>jd n x:=by
 unfold jd;refine DM.run ?_;have h45:(ofBytes [45]).size=1:=rfl;have h84:(ofBytes [84]).size=1:=rfl;have h00:(ofBytes []).size=0:=rfl;refine DM.ld (o:=0) (λ_=>rfl) rfl rfl (DM.ite (λ_=>DM.ck (by decide) (DM.ck (by decide) (DM.ck (by decide) (DM.ld (o:=1) (λ_=>rfl) rfl rfl (DM.ld (o:=2) (λ_=>rfl) rfl rfl (DM.ld (o:=3) (λ_=>rfl) rfl rfl ?_)))))) λ_=>?_)
 .refine DM.ddc (ads:=λa=>[some (((an a).plus 1).plus 1),some (((an a).plus 1).plus 2)]) (A0 hx.1 (by omega)) (λb a hm c hc=>by grind [Addr.plus]) λx8 h8=>DM.dd (DD.cat (by omega)) λx9 h9=>?_;refine DM.ddc (ads:=λa=>[some (((an a).plus 1).plus 2)]) (A0 hx.2.1 (by omega)) (λb a hm c hc=>by subst hc;simp[Addr.plus] at hm;subst hm;rfl) λx10 h10=>DM.dd (DD.cat (by omega)) λx11 h11=>DM.dd (DD.cat (by omega)) λx12 h12=>?_;refine DM.dd (A0 hx.2.2.1 (by omega)) λx13 h13=>DM.dd (DD.cat (by omega)) λiY h14=>DM.ld (o:=0) (λ_=>rfl) rfl rfl (DM.ite (λ_=>DM.dd (DD.cat (by omega)) λpT h16=>ER hx (by omega)) λ_=>ER hx (by omega))
 .exact DM.ld (o:=0) (λ_=>rfl) rfl rfl (DM.ite (λ_=>DM.dd (DD.cat (by omega)) λpT h16=>ER hx (by omega)) λ_=>ER hx (by omega))
end
section
variable {α β:Type}{h h' h0:af}{L:List bu}{Q:β->af->Prop}{N M':Nat}
structure Bk where
 b0:Nat
 b1:Nat
 b2:Nat
 b3:Nat
 b5:Nat
structure Sg where
 x:Mo
 pos:Int
 y:Mo
abbrev Mz (B:Bk):ξ:=Value.func (Fn.func oB) #[] #[Value.pointer (some (an B.b3)),Value.pointer (some (an B.b0))]
abbrev SL (s:ζ)(B:Bk)(σ:Sg):List bu:=[.au B.b5 [Mz B] uD,.au B.b3 [vi σ.pos] av,.au B.b2 (mv σ.x) bT,.au B.b1 (mv σ.y) bT,.au B.b0 [.string s] dV]
def DS (N:Nat)(s:ζ)(σ:Sg)(P:α->Sg->Prop)(m:Nat->Bk->M α):Prop:=∃r σ',P r σ'/\∀n B h0 h,N<=n->Z h0 h (SL s B σ)->Wp (m n B) h λy h'=>y=r/\Z h0 h' (SL s B σ')
variable {s:ζ}{σ:Sg}
theorem DS.pure {P:α->Sg->Prop}{r:α}(hr:P r σ):DS N s σ P λ_ _=>AI r:=⟨r,σ,hr,λn B h0 h _ z=>ag.2 ⟨rfl,z⟩⟩
theorem DS.bind {P:α->Sg->Prop}{R:β->Sg->Prop}{m:Nat->Bk->M α}{f:Nat->Bk->α->M β}(hm:DS N s σ P m)(hf:∀x σ',P x σ'->DS N s σ' R λn B=>f n B x):DS N s σ R λn B=>sh (m n B) (f n B):=by
 obtain⟨x,σ1,hx,h1⟩:=hm;obtain⟨y,σ2,hy,h2⟩:=hf x σ1 hx;refine⟨y,σ2,hy,λn B h0 h hn z=>?_⟩;show Wp (sh (m n B) (f n B)) h _;rw[ah];refine (h1 n B h0 h hn z).mono λw h3 hw=>?_;obtain⟨rfl,z3⟩:=hw;exact h2 n B h0 h3 hn z3
theorem DS.ite {P:α->Sg->Prop}{c:Prop}[Decidable c]{a b:Nat->Bk->M α}(ha:c->DS N s σ P a)(hb:¬c->DS N s σ P b):DS N s σ P λn B=>if c then a n B else b n B:=by
 by_cases hc:c
 .simp_all
 simp_all
theorem DS.mono {P P':α->Sg->Prop}{m:Nat->Bk->M α}(hm:DS N s σ P m)(hp:∀x σ',P x σ'->P' x σ'):DS N s σ P' m:=let ⟨x,σ1,hx,h1⟩:=hm;⟨x,σ1,hp _ _ hx,h1⟩
theorem DS.le {P:α->Sg->Prop}{m:Nat->Bk->M α}(hm:DS N s σ P m)(hl:N<=M'):DS M' s σ P m:=let ⟨x,σ1,hx,h1⟩:=hm;⟨x,σ1,hx,λn B h0 h hn z=>h1 n B h0 h (by omega) z⟩
theorem DS.succ {P:α->Sg->Prop}{l m:Nat->Bk->M α}(he:∀n B,l (n+1) B=m n B)(hm:DS N s σ P m):DS (N+1) s σ P l:=by
 obtain⟨x,σ1,hx,h1⟩:=hm;refine⟨x,σ1,hx,λn B h0 h hn z=>?_⟩;obtain⟨n,rfl⟩:∃m,n=m+1:=⟨n-1,by omega⟩;rw[he];exact h1 n B h0 h (by omega) z
theorem DS.Du {R:β->Sg->Prop}{f:Nat->Bk->Int->M β}(hf:DS N s σ R λn B=>f n B σ.pos):DS N s σ R λn B=>sh (ar li (an B.b3)) (f n B):=by
 obtain⟨r,σ1,hr,h2⟩:=hf;exact⟨r,σ1,hr,λn B h0 h hn z=>z.ld 1 (h2 n B h0 h hn z)⟩
theorem DS.stP {R:β->Sg->Prop}{v:Int}{f:Nat->Bk->Unit->M β}(hf:DS N s { σ with pos:=v } R λn B=>f n B ()):DS N s σ R λn B=>sh (bF (an B.b3) [vi v]) (f n B):=by
 obtain⟨r,σ1,hr,h2⟩:=hf;exact⟨r,σ1,hr,λn B h0 h hn z=>z.st 1 (cs':=[vi v]) λh' z'=>h2 n B h0 h' hn z'⟩
theorem DS.GL {R:β->Sg->Prop}{f:Nat->Bk->ζ->M β}(hf:DS N s σ R λn B=>f n B s):DS N s σ R λn B=>sh (ar .str (an B.b0)) (f n B):=by
 obtain⟨r,σ1,hr,h2⟩:=hf;exact⟨r,σ1,hr,λn B h0 h hn z=>z.ld 4 (h2 n B h0 h hn z)⟩
theorem DS.ldF {R:β->Sg->Prop}{f:Nat->Bk->ξ->M β}(hf:DS N s σ R λn B=>f n B (Mz B)):DS N s σ R λn B=>sh (ar .raw (an B.b5)) (f n B):=by
 obtain⟨r,σ1,hr,h2⟩:=hf;exact⟨r,σ1,hr,λn B h0 h hn z=>z.ld 0 (h2 n B h0 h hn z)⟩
theorem DS.ix {R:β->Sg->Prop}{i:Int}{f:Nat->Bk->UInt8->M β}(h1:0<=i)(h2:i<s.size)(hf:∀c,DS N s σ R λn B=>f n B c):DS N s σ R λn B=>sh (jx s i) (f n B):=by
 have hlt:i.toNat<s.size:=by omega
 obtain⟨r,σ1,hr,h3⟩:=hf s[i.toNat];refine⟨r,σ1,hr,λn B h0 h hn z=>?_⟩;show Wp (sh (jx s i) (f n B)) h _;rw[ah,fE]
 grind
theorem DS.fn {ts:List Ty}{R:β->Sg->Prop}{v:Bk->ξ}{c:Bk->aL ts}{f:Nat->Bk->aL ts->M β}(hx:∀B,vy ts (Ib (v B))=some (c B))(hf:DS N s σ R λn B=>f n B (c B)):DS N s σ R λn B=>sh (pG ts (v B)) (f n B):=by
 grind [Wp,sh,pG,ah,kB]
def Pd (x:Mo)(j:Nat)(v:Int):Mo:=
 match j with
 |0=>(v,x.2)
 |1=>(x.1,v,x.2.2)
 |2=>(x.1,x.2.1,v,x.2.2.2)
 |3=>(x.1,x.2.1,x.2.2.1,v,x.2.2.2.2)
 |4=>(x.1,x.2.1,x.2.2.1,x.2.2.2.1,v,x.2.2.2.2.2)
 |5=>(x.1,x.2.1,x.2.2.1,x.2.2.2.1,x.2.2.2.2.1,v,x.2.2.2.2.2.2)
 |6=>(x.1,x.2.1,x.2.2.1,x.2.2.2.1,x.2.2.2.2.1,x.2.2.2.2.2.1,v,x.2.2.2.2.2.2.2)
 |7=>(x.1,x.2.1,x.2.2.1,x.2.2.2.1,x.2.2.2.2.1,x.2.2.2.2.2.1,x.2.2.2.2.2.2.1,v,x.2.2.2.2.2.2.2.2)
 |8=>(x.1,x.2.1,x.2.2.1,x.2.2.2.1,x.2.2.2.2.1,x.2.2.2.2.2.1,x.2.2.2.2.2.2.1,x.2.2.2.2.2.2.2.1,v,x.2.2.2.2.2.2.2.2.2)
 |_=>(x.1,x.2.1,x.2.2.1,x.2.2.2.1,x.2.2.2.2.1,x.2.2.2.2.2.1,x.2.2.2.2.2.2.1,x.2.2.2.2.2.2.2.1,x.2.2.2.2.2.2.2.2.1,v,x.2.2.2.2.2.2.2.2.2.2)
def getM (x:Mo)(j:Nat):Int:=
 match j with
 |0=>x.1|1=>x.2.1|2=>x.2.2.1|3=>x.2.2.2.1|4=>x.2.2.2.2.1|5=>x.2.2.2.2.2.1|6=>x.2.2.2.2.2.2.1|7=>x.2.2.2.2.2.2.2.1|8=>x.2.2.2.2.2.2.2.2.1|_=>x.2.2.2.2.2.2.2.2.2.1
theorem ady {j:Nat}(h:j<=9):j=0\/j=1\/j=2\/j=3\/j=4\/j=5\/j=6\/j=7\/j=8\/j=9:=by omega
theorem Wv {x:Mo}{j:Nat}{v:Int}(hj:j<=9):bf (mv x) j [vi v]=mv (Pd x j v):=by
 rcases ady hj with rfl|rfl|rfl|rfl|rfl|rfl|rfl|rfl|rfl|rfl<;>rfl
theorem QK {x:Mo}{j:Nat}(hj:j<=9):(mv x)[j]?=some (vi (getM x j)):=by
 rcases ady hj with rfl|rfl|rfl|rfl|rfl|rfl|rfl|rfl|rfl|rfl<;>rfl
theorem BK {x:Mo}{j:Nat}{v:Int}(hj:j<=9)(hx:A1 x)(hv:Gh v):A1 (Pd x j v):=by
 obtain⟨h1,h2,h3,h4,h5,h6,h7⟩:=hx;rcases ady hj with rfl|rfl|rfl|rfl|rfl|rfl|rfl|rfl|rfl|rfl<;>(unfold Pd A1;simp only;exact⟨by assumption,by assumption,by assumption,by assumption,by assumption,by assumption,by assumption⟩)
theorem DS.ldX {R:β->Sg->Prop}{j:Nat}{g:Bk->Addr}{f:Nat->Bk->Int->M β}(hg:∀B,g B=⟨B.b2,j,none⟩)(hj:j<=9)(hf:DS N s σ R λn B=>f n B (getM σ.x j)):DS N s σ R λn B=>sh (ar li (g B)) (f n B):=by
 obtain⟨r,σ1,hr,h2⟩:=hf;refine⟨r,σ1,hr,λn B h0 h hn z=>?_⟩;show Wp (sh (ar li (g B)) (f n B)) h _;rw[hg];exact z.ld 2 (h2 n B h0 h hn z) rfl (QK hj) rfl
theorem DS.stX {R:β->Sg->Prop}{j:Nat}{v:Int}{g:Bk->Addr}{f:Nat->Bk->Unit->M β}(hg:∀B,g B=⟨B.b2,j,none⟩)(hj:j<=9)(hf:DS N s { σ with x:=Pd σ.x j v } R λn B=>f n B ()):DS N s σ R λn B=>sh (bF (g B) [vi v]) (f n B):=by
 obtain⟨r,σ1,hr,h2⟩:=hf;refine⟨r,σ1,hr,λn B h0 h hn z=>?_⟩;show Wp (sh (bF (g B) [vi v]) (f n B)) h _;rw[hg];exact z.st 2 (λh' z'=>h2 n B h0 h' hn z') rfl (Wv hj) (by show j+1<=11;omega)
def Zx (x:Mo)(v:Int):Mo:=(x.1,x.2.1,x.2.2.1,x.2.2.2.1,x.2.2.2.2.1,x.2.2.2.2.2.1,x.2.2.2.2.2.2.1,x.2.2.2.2.2.2.2.1,x.2.2.2.2.2.2.2.2.1,x.2.2.2.2.2.2.2.2.2.1,v)
theorem DS.ldZ {R:β->Sg->Prop}{f:Nat->Bk->Int->M β}(hf:DS N s σ R λn B=>f n B σ.x.2.2.2.2.2.2.2.2.2.2):DS N s σ R λn B=>sh (ar (.int .u8) ((an B.b2).plus 10)) (f n B):=by
 obtain⟨r,σ1,hr,h2⟩:=hf;exact⟨r,σ1,hr,λn B h0 h hn z=>z.ld 2 (o:=10) (h2 n B h0 h hn z)⟩
theorem DS.stZ {R:β->Sg->Prop}{v:Int}{f:Nat->Bk->Unit->M β}(hf:DS N s { σ with x:=Zx σ.x v } R λn B=>f n B ()):DS N s σ R λn B=>sh (bF ((an B.b2).plus 10) [v8 v]) (f n B):=by
 obtain⟨r,σ1,hr,h2⟩:=hf;exact⟨r,σ1,hr,λn B h0 h hn z=>z.st 2 (o:=10) (cs':=mv (Zx σ.x v)) (λh' z'=>h2 n B h0 h' hn z') rfl rfl (aao 11)⟩
theorem DS.fC {R:β->Sg->Prop}{f:Nat->Bk->Mo->M β}(hf:DS N s σ R λn B=>f n B σ.x):DS N s σ R λn B=>sh (aN TW (an B.b2)) (f n B):=by
 obtain⟨r,σ1,hr,h2⟩:=hf;exact⟨r,σ1,hr,λn B h0 h hn z=>z.fC 2 (ls:=TW) (x:=σ.x) (h2 n B h0 h hn z)⟩
theorem DS.afJ {R:β->Sg->Prop}{f:Nat->Bk->Mo->M β}(hf:DS N s σ R λn B=>f n B σ.y):DS N s σ R λn B=>sh (aN TW (an B.b1)) (f n B):=by
 obtain⟨r,σ1,hr,h2⟩:=hf;exact⟨r,σ1,hr,λn B h0 h hn z=>z.fC 3 (ls:=TW) (x:=σ.y) (h2 n B h0 h hn z)⟩
theorem DS.stY {R:β->Sg->Prop}{x:Mo}{f:Nat->Bk->Unit->M β}(hf:DS N s { σ with y:=x } R λn B=>f n B ()):DS N s σ R λn B=>sh (bF (an B.b1) (mv x)) (f n B):=by
 obtain⟨r,σ1,hr,h2⟩:=hf;exact⟨r,σ1,hr,λn B h0 h hn z=>z.st 3 (cs':=mv x) (λh' z'=>h2 n B h0 h' hn z') rfl rfl (aao _)⟩
theorem DS.aiF {R:β->Sg->Prop}{x:Mo}{f:Nat->Bk->Unit->M β}(hf:DS N s { σ with y:=x } R λn B=>f n B ()):DS N s σ R λn B=>sh (Ago.mY [some (an B.b3),some (an B.b0)] (bF (an B.b1) (mv x))) (f n B):=by
 obtain⟨r,σ1,hr,h2⟩:=hf;refine⟨r,σ1,hr,λn B h0 h hn z=>?_⟩;show Wp (sh (Ago.mY [some (an B.b3),some (an B.b0)] (bF (an B.b1) (mv x))) (f n B)) h _;rw[ah];refine yq ?_;have l0:LB h B.b0 _ _:=z.get 4 rfl;have l3:LB h B.b3 _ _:=z.get 1 rfl;have key:Wp (sh (bF (an B.b1) (mv x)) AI) h λy h'=>Z h0 h' (SL s B { σ with y:=x }):=z.st 3 (cs':=mv x) (λh' z'=>ag.2 z') rfl rfl (aao _);rw[ah] at key;refine key.mono λy h' hz=>?_;have z':=ag.1 hz;have m0:LB h' B.b0 _ _:=z'.get 4 rfl;have m3:LB h' B.b3 _ _:=z'.get 1 rfl;refine⟨λa hm=>?_,h2 n B h0 h' hn z'⟩;simp only[agu,abG,agx,ahO] at hm;rcases hm with rfl|rfl
 .show h'.get B.b3=h.get B.b3;rw[l3.get,m3.get]
 .show h'.get B.b0=h.get B.b0;rw[l0.get,m0.get]
def OKr (r:Mo×Bool)(_:Sg):Prop:=A1 r.1
structure A9 (s:ζ) (σ:Sg):Prop where
 lo:0<=σ.pos
 hi:σ.pos<=s.size
 ok:A1 σ.x
theorem Ww (x:Int):Gh (IntKind.i64.wrap x):=O8 x
theorem A9.fwd (i:A9 s σ)(hs:s.size<=1000000)(h:σ.pos<s.size):A9 s { σ with pos:=IntKind.i64.wrap (σ.pos+1) }:=by
 have:=i.lo;refine⟨?_,?_,i.ok⟩<;>simp only<;>rw[s6 (by omega) (by omega)]<;>omega
def aiG (s:ζ)(r:Int⊕(Int×Bool))(σ:Sg):Prop:=A9 s σ/\(match r with | .inl v=>Gh v | .inr p=>Gh p.1)
theorem adz (hs:s.size<=1000000):∀(k:Nat) (c v i:Int) (σ:Sg),A9 s σ->0<=i->c-i<=k->c<=100->Gh v->DS (k+1) s σ (aiG s) λn B=>gJ n (an B.b3) (an B.b0) v c i:=by
 intro k
 induction k with
 |zero=>
  intro c v i σ iv hi hk hc hv;refine DS.succ (m:=λn B=>jb (gJ n) n (an B.b3) (an B.b0) v c i) (λ_ _=>rfl) ?_;unfold jb;exact DS.ite (λh1=>by simp only[OF] at h1;omega) λ_=>DS.pure ⟨iv,hv⟩
 |succ k ih=>
  intro c v i σ iv hi hk hc hv;refine DS.succ (m:=λn B=>jb (gJ n) n (an B.b3) (an B.b0) v c i) (λ_ _=>rfl) ?_;unfold jb;have z64:Gh 0:=by constructor<;>omega
  refine DS.ite (λh1=>DS.Du (DS.GL (DS.ite (λ_=>DS.pure ⟨iv,z64⟩) λh2=>?_))) λ_=>DS.pure ⟨iv,hv⟩;simp only[OF] at h1 h2;have h3:σ.pos<s.size:=by omega
  refine DS.GL (DS.Du (DS.ix iv.lo h3 λc1=>DS.ite (λ_=>DS.pure ⟨iv,z64⟩) λ_=>DS.GL (DS.Du (DS.ix iv.lo h3 λc2=>DS.ite (λ_=>DS.pure ⟨iv,z64⟩) λ_=>?_))));unfold mz;have e:IntKind.i64.wrap (i+1)=i+1:=s6 (by omega) (by omega);refine DS.GL (DS.Du (DS.ix iv.lo h3 λc3=>DS.Du (DS.stP ?_)));rw[e];exact ih _ _ _ _ (iv.fwd hs h3) (by omega) (by omega) hc (Ww _)
theorem adA (hs:s.size<=1000000){c:Int}(h1:0<=c)(h2:c<=9){σ:Sg}(iv:A9 s σ):DS 10 s σ (λ(r:Int×Bool) σ'=>A9 s σ'/\Gh r.1) λn B=>jB n (Mz B) c:=by
 have he:∀n B,jB n (Mz B) c=sh (pG [aJ,aJ] (Mz B)) λ(x:Addr×Addr)=>lE n c x.1 x.2:=λn B=>by
  unfold jB;rw[AT (show rh oB (Mz B)=true from rfl)]
 suffices hh:DS 10 s σ (λ(r:Int×Bool) σ'=>A9 s σ'/\Gh r.1) λn B=>sh (pG [aJ,aJ] (Mz B)) λ(x:Addr×Addr)=>lE n c x.1 x.2 by
  grind
 refine DS.fn (c:=λB=>(an B.b3,an B.b0)) (λB=>rfl) ?_;unfold lE;refine DS.bind ((adz hs 9 c 0 0 σ iv (by omega) (by omega) (by omega) (by constructor<;>omega)).le (by omega)) λr σ1 hr=>?_;cases r with
 |inl v=>exact DS.pure ⟨hr.1,hr.2⟩
 |inr p=>exact DS.pure ⟨hr.1,hr.2⟩
abbrev Wx (B:Bk)(lo len cap:Nat):Sl:=⟨some ⟨B.b2,lo,none⟩,len,cap⟩
theorem DS.ixA {R:β->Sg->Prop}{i:Int}{lo len cap:Nat}{f:Nat->Bk->Addr->M β}(h1:0<=i)(h2:i<(len:Int))(hf:DS N s σ R λn B=>f n B ⟨B.b2,lo+i.toNat,none⟩):DS N s σ R λn B=>sh (aw (Wx B lo len cap) i 1) (f n B):=by
 obtain⟨r,σ1,hr,h3⟩:=hf;refine⟨r,σ1,hr,λn B h0 h hn z=>?_⟩;show Wp (sh (aw (Wx B lo len cap) i 1) (f n B)) h _;rw[ah,zm];refine⟨_,rfl,h1,h2,?_⟩;have e:(Addr.plus ⟨B.b2,lo,none⟩ (i.toNat*1))=⟨B.b2,lo+i.toNat,none⟩:=by simp[Addr.plus]
 rw[e];exact h3 n B h0 h hn z
def afK (s:ζ)(_:Unit⊕Bool)(σ:Sg):Prop:=A9 s σ
theorem adB (hs:s.size<=1000000){lo len cap:Nat}(hl:lo+len<=10)(fst sep:Int)(hf:0<=fst/\fst<=9):∀(k:Nat) (i:Int) (σ:Sg),A9 s σ->0<=i->(len:Int)-i<=k->DS (k+11) s σ (afK s) λn B=>fH n (Wx B lo len cap) fst sep (an B.b3) (an B.b0) (an B.b5) len i:=by
 intro k
 induction k with
 |zero=>
  intro i σ iv hi hk;refine DS.succ (N:=10) (m:=λn B=>jc (fH n) n (Wx B lo len cap) fst sep (an B.b3) (an B.b0) (an B.b5) len i) (λ_ _=>rfl) ?_;unfold jc;exact DS.ite (λh1=>by simp only[OF] at h1;omega) λ_=>DS.pure iv
 |succ k ih=>
  intro i σ iv hi hk;have e:IntKind.i64.wrap (i+1)=i+1\/¬(i<len):=by
   by_cases h:i<len
   .exact .inl (s6 (by omega) (by omega))
   .exact .inr h
  have tail:∀{σ:Sg} (w:Int),A9 s σ->0<=w/\w<=9->i<(len:Int)->DS (k+11) s σ (afK s) λn B=>dQ (fH n) n (Wx B lo len cap) fst sep (an B.b3) (an B.b0) (an B.b5) i w len i:=by
   intro σ w iv hw hlt;unfold dQ;refine DS.ldF (DS.bind ((adA hs hw.1 hw.2 iv).le (by omega)) λr σ1 hr=>DS.ite (λ_=>DS.pure hr.1) λ_=>DS.ixA hi hlt (DS.stX (j:=lo+i.toNat) (λ_=>rfl) (by omega) ?_));rw[e.resolve_right λh=>h hlt];exact ih (i+1) _ ⟨hr.1.lo,hr.1.hi,BK (by omega) hr.1.ok hr.2⟩ (by omega) (by omega)
  refine DS.succ (N:=k+11) (m:=λn B=>jc (fH n) n (Wx B lo len cap) fst sep (an B.b3) (an B.b0) (an B.b5) len i) (λ_ _=>rfl) ?_;unfold jc;refine DS.ite (λh1=>?_) λ_=>DS.pure iv;simp only[OF] at h1;refine DS.ite (λh2=>DS.Du (DS.GL (DS.ite (λ_=>DS.pure iv) λh3=>?_))) λh2=>?_
  .simp only[OF] at h2 h3;have h4:σ.pos<s.size:=by omega
   refine DS.GL (DS.Du (DS.ix iv.lo h4 λc=>DS.ite (λ_=>DS.pure iv) λ_=>DS.Du (DS.stP ?_)));have iv2:=iv.fwd hs h4;exact DS.ite (λ_=>tail fst iv2 hf h1) λ_=>tail 2 iv2 (by omega) h1
  .exact DS.ite (λ_=>tail fst iv hf h1) λ_=>tail 2 iv (by omega) h1
abbrev yd (B:Bk):ξ:=Value.func (Fn.func dG) #[] #[Value.pointer (some (an B.b3)),Value.pointer (some (an B.b0)),Value.pointer (some (an B.b5))]
theorem adC (hs:s.size<=1000000){lo len cap:Nat}(hl:lo+len<=10)(fst sep:Int)(hf:0<=fst/\fst<=9){σ:Sg}(iv:A9 s σ):DS 30 s σ (λ(_:Bool) σ'=>A9 s σ') λn B=>eO n (Wx B lo len cap) fst sep (an B.b3) (an B.b0) (an B.b5):=by
 unfold eO;refine DS.bind ((adB hs hl fst sep hf 10 0 σ iv (by omega) (by omega)).le (by omega)) λr σ1 hr=>?_;cases r with
 |inl v=>exact DS.pure hr
 |inr p=>exact DS.pure hr
theorem Ke (hs:s.size<=1000000){lo len cap:Nat}(hl:lo+len<=10)(fst sep:Int)(hf:0<=fst/\fst<=9){σ:Sg}(iv:A9 s σ){D:Nat->ξ->Sl->Int->Int->M Bool}
  (hd:∀n B a,D n (yd B) a fst sep=sh (pG [aJ,aJ,aJ] (yd B)) λ(c:Addr×Addr×Addr)=>eO n a fst sep c.1 c.2.1 c.2.2) :
  DS 30 s σ (λ(_:Bool) σ'=>A9 s σ') λn B=>D n (yd B) (Wx B lo len cap) fst sep:=by
 suffices hh:DS 30 s σ (λ(_:Bool) σ'=>A9 s σ') λn B=>sh (pG [aJ,aJ,aJ] (yd B)) λ(c:Addr×Addr×Addr)=>eO n (Wx B lo len cap) fst sep c.1 c.2.1 c.2.2 by
  grind
 exact DS.fn (c:=λB=>(an B.b3,an B.b0,an B.b5)) (λB=>rfl) (adC hs hl fst sep hf iv)
theorem DS.slA {R:β->Sg->Prop}{lo hi:Nat}{f:Nat->Bk->Sl->M β}(h1:lo<=hi)(h2:hi<=8)(hf:DS N s σ R λn B=>f n B (Wx B (1+lo) (hi-lo) (8-lo+1))):DS N s σ R λn B=>sh (nB ((an B.b2).plus 1) 8 lo hi 1) (f n B):=by
 obtain⟨r,σ1,hr,h3⟩:=hf;refine⟨r,σ1,hr,λn B h0 h hn z=>?_⟩;show Wp (sh (nB ((an B.b2).plus 1) 8 lo hi 1) (f n B)) h _;obtain⟨y,h',e1,e2⟩:=h3 n B h0 h hn z;refine⟨y,h',?_,e2⟩;have e0:nB ((an B.b2).plus 1) 8 lo hi 1 h=some (Wx B (1+lo) (hi-lo) (8-lo+1),h):=by
  unfold nB;rw[AT ⟨by omega,by omega,by omega⟩];simp[Addr.plus]
 unfold sh;rw[e0];exact e1
theorem Zy (hs:s.size<=1000000)(v:Bk->ξ):∀(k:Nat) (i:Int) (σ:Sg),A9 s σ->0<=i->9-i<=k->DS (k+1) s σ (λ(r:Int) σ'=>A9 s σ'/\0<=r) λn B=>iR n (an B.b0) (an B.b1) (an B.b2) (an B.b3) (v B) i:=by
 intro k
 induction k with
 |zero=>
  intro i σ iv hi hk;refine DS.succ (m:=λn B=>kF (iR n) n (an B.b0) (an B.b1) (an B.b2) (an B.b3) (v B) i) (λ_ _=>rfl) ?_;unfold kF;exact DS.ite (λh1=>by simp only[OF] at h1;omega) λ_=>DS.pure ⟨iv,hi⟩
 |succ k ih=>
  intro i σ iv hi hk;refine DS.succ (m:=λn B=>kF (iR n) n (an B.b0) (an B.b1) (an B.b2) (an B.b3) (v B) i) (λ_ _=>rfl) ?_;unfold kF;refine DS.ite (λh1=>DS.Du (DS.GL (DS.ite (λh2=>?_) λ_=>DS.pure ⟨iv,hi⟩))) λ_=>DS.pure ⟨iv,hi⟩;simp only[OF] at h1 h2;refine DS.GL (DS.Du (DS.ix iv.lo h2 λc1=>DS.ite (λ_=>DS.GL (DS.Du (DS.ix iv.lo h2 λc2=>DS.ite (λ_=>?_) λ_=>DS.pure ⟨iv,hi⟩))) λ_=>DS.pure ⟨iv,hi⟩));unfold oc;have e:IntKind.i64.wrap (i+1)=i+1:=s6 (by omega) (by omega);refine DS.ldX (j:=9) (λ_=>rfl) (by omega) (DS.GL (DS.Du (DS.ix iv.lo h2 λc3=>DS.stX (j:=9) (λ_=>rfl) (by omega) (DS.Du (DS.stP ?_)))));rw[e];exact ih _ _ (A9.fwd (σ:={ σ with x:=Pd σ.x 9 _ }) ⟨iv.lo,iv.hi,BK (by omega) iv.ok (Ww _)⟩ hs h2) (by omega) (by omega)
theorem Zz (v:Bk->ξ):∀(k:Nat) (i:Int) (σ:Sg),A9 s σ->0<=i->9-i<=k->DS (k+1) s σ (λ(_:Unit) σ'=>A9 s σ') λn B=>j4 n (an B.b0) (an B.b1) (an B.b2) (an B.b3) (v B) i:=by
 intro k
 induction k with
 |zero=>
  intro i σ iv hi hk;refine DS.succ (m:=λn B=>kE (j4 n) n (an B.b0) (an B.b1) (an B.b2) (an B.b3) (v B) i) (λ_ _=>rfl) ?_;unfold kE;exact DS.ite (λh1=>by simp only[OF] at h1;omega) λ_=>DS.pure iv
 |succ k ih=>
  intro i σ iv hi hk;refine DS.succ (m:=λn B=>kE (j4 n) n (an B.b0) (an B.b1) (an B.b2) (an B.b3) (v B) i) (λ_ _=>rfl) ?_;unfold kE;refine DS.ite (λh1=>?_) λ_=>DS.pure iv;simp only[OF] at h1;have e:IntKind.i64.wrap (i+1)=i+1:=s6 (by omega) (by omega);refine DS.ldX (j:=9) (λ_=>rfl) (by omega) (DS.stX (j:=9) (λ_=>rfl) (by omega) ?_);rw[e];exact ih _ _ ⟨iv.lo,iv.hi,BK (by omega) iv.ok (Ww _)⟩ (by omega) (by omega)
theorem Kf {x:Mo}{v:Int}(hx:A1 x):A1 (Zx x v):=hx
theorem MA {b:Bool}{σ:Sg}(hx:A1 σ.x):DS N s σ OKr λn B=>sh (aN TW (an B.b2)) λ(x:Mo)=>sh (bF (an B.b1) (mv x)) λ_=>sh (aN TW (an B.b1)) λ(y:Mo)=>AI (y,b):=
 DS.fC (DS.stY (DS.afJ (DS.pure hx)))
theorem Gi {σ:Sg}(hx:A1 σ.x):DS N s σ OKr λn B=>sh (aN TW (an B.b2)) λ(x:Mo)=>sh (ar li (an B.b3)) λ(p:Int)=>sh (ar .str (an B.b0)) λ(t:ζ)=>sh (Ago.mY [some (an B.b3),some (an B.b0)] (bF (an B.b1) (mv x))) λ_=>sh (aN TW (an B.b1)) λ(y:Mo)=>AI (y,decide (p=(t.size:Int))):=
 DS.fC (DS.Du (DS.GL (DS.aiF (DS.afJ (DS.pure hx)))))
theorem adD (hs:s.size<=1000000)(iv:A9 s σ)(hp:σ.pos<s.size):DS 30 s σ OKr λn B=>pA n (an B.b0) (an B.b1) (an B.b2) (an B.b3) (yd B):=by
 unfold pA;have iv2:∀c,A9 s { x:=Zx σ.x c,pos:=IntKind.i64.wrap (σ.pos+1),y:=σ.y }:=λc=>⟨(iv.fwd hs hp).lo,(iv.fwd hs hp).hi,Kf iv.ok⟩;refine DS.GL (DS.Du (DS.ix iv.lo hp λc=>DS.stZ (DS.Du (DS.stP (DS.ldZ (DS.ite (λ_=>Gi (Kf iv.ok)) λ_=>DS.ldZ (DS.ite (λ_=>DS.ldZ (DS.ite (λ_=>MA (Kf iv.ok)) λ_=>?_)) λ_=>?_)))))))
 .exact DS.slA (lo:=6) (hi:=8) (by omega) (by omega) (DS.bind (Ke hs (by omega) 2 58 (by omega) (iv2 _) (D:=kD) λn B a=>AT (show rh dG (yd B)=true from rfl)) λr σ1 iv3=>DS.ite (λ_=>MA iv3.ok) λ_=>Gi iv3.ok)
 .exact DS.slA (lo:=6) (hi:=8) (by omega) (by omega) (DS.bind (Ke hs (by omega) 2 58 (by omega) (iv2 _) (D:=kD) λn B a=>AT (show rh dG (yd B)=true from rfl)) λr σ1 iv3=>DS.ite (λ_=>MA iv3.ok) λ_=>Gi iv3.ok)
theorem Pe (hs:s.size<=1000000)(iv:A9 s σ):DS 30 s σ OKr λn B=>j5 n (an B.b0) (an B.b1) (an B.b2) (an B.b3) (yd B):=by
 unfold j5;exact DS.Du (DS.GL (DS.ite (λhp=>DS.ldX (j:=0) (λ_=>rfl) (by omega) (DS.ite (λ_=>adD hs iv (by simpa using hp)) λ_=>Gi iv.ok)) λ_=>Gi iv.ok))
theorem adE (hs:s.size<=1000000)(iv:A9 s σ)(hp:σ.pos<s.size):DS 30 s σ OKr λn B=>pB n (an B.b0) (an B.b1) (an B.b2) (an B.b3) (yd B):=by
 unfold pB;refine DS.Du (DS.stP (DS.bind ((Zy hs yd 9 0 _ (iv.fwd hs hp) (by omega) (by omega)).le (by omega)) λr σ1 hr=>DS.ite (λ_=>MA hr.1.ok) λ_=>DS.bind ((Zz yd 9 r σ1 hr.1 hr.2 (by omega)).le (by omega)) λ_ σ2 iv2=>Pe hs iv2))
theorem Kg (hs:s.size<=1000000)(iv:A9 s σ):DS 30 s σ OKr λn B=>fR n (an B.b0) (an B.b1) (an B.b2) (an B.b3) (yd B):=by
 unfold fR;refine DS.slA (lo:=3) (hi:=6) (by omega) (by omega) (DS.bind (Ke hs (by omega) 2 58 (by omega) iv (D:=rO) λn B a=>AT (show rh dG (yd B)=true from rfl)) λr σ1 iv3=>DS.ite (λ_=>MA iv3.ok) λ_=>DS.ldX (j:=0) (λ_=>rfl) (by omega) (DS.stX (j:=0) (λ_=>rfl) (by omega) ?_));have iv4:A9 s { σ1 with x:=Pd σ1.x 0 (IntKind.i64.wrap (getM σ1.x 0+2)) }:=⟨iv3.lo,iv3.hi,BK (by omega) iv3.ok (Ww _)⟩;exact DS.Du (DS.GL (DS.ite (λhp=>DS.GL (DS.Du (DS.ix iv3.lo (by simpa using hp) λc=>DS.ite (λ_=>adE hs iv4 (by simpa using hp)) λ_=>Pe hs iv4))) λ_=>Pe hs iv4))
theorem adF (hs:s.size<=1000000)(iv:A9 s σ):DS 30 s σ OKr λn B=>mQ n (an B.b0) (an B.b1) (an B.b2) (an B.b3) (yd B):=by
 unfold mQ;refine DS.slA (lo:=0) (hi:=3) (by omega) (by omega) (DS.bind (Ke hs (by omega) 4 45 (by omega) iv (D:=rN) λn B a=>AT (show rh dG (yd B)=true from rfl)) λr σ1 iv3=>DS.ite (λ_=>MA iv3.ok) λ_=>DS.stX (j:=0) (λ_=>rfl) (by omega) ?_);have iv4:A9 s { σ1 with x:=Pd σ1.x 0 1 }:=⟨iv3.lo,iv3.hi,BK (by omega) iv3.ok (by constructor<;>omega)⟩;refine DS.Du (DS.GL (DS.ite (λ_=>MA iv4.ok) λhp=>?_));have h5:σ1.pos<s.size:=by have:=iv3.hi;simp only[OF] at hp;omega
 have iv5:=iv4.fwd hs h5;exact DS.GL (DS.Du (DS.ix iv3.lo h5 λc=>DS.ite (λ_=>DS.GL (DS.Du (DS.ix iv3.lo h5 λc=>DS.ite (λ_=>MA iv4.ok) λ_=>DS.Du (DS.stP (Kg hs iv5))))) λ_=>DS.Du (DS.stP (Kg hs iv5))))
abbrev mo0:Mo:=(0,0,0,0,0,0,0,0,0,0,0)
theorem Tl (hs:s.size<=1000000):DS 30 s ⟨mo0,0,mo0⟩ OKr λn B=>sh (ar .str (an B.b0)) λ(x7:ζ)=>
  if decide (2<(↑(ByteArray.size x7):Int)) then
   sh (ar .str (an B.b0)) λ(x8:ζ)=>
   sh (jx x8 2) λx9=>
   if !decide ((↑x9.toNat:Int)=58) then
    mQ n (an B.b0) (an B.b1) (an B.b2) (an B.b3) (yd B)
   else
    fR n (an B.b0) (an B.b1) (an B.b2) (an B.b3) (yd B)
  else
   fR n (an B.b0) (an B.b1) (an B.b2) (an B.b3) (yd B):=by
 have iv:A9 s ⟨mo0,0,mo0⟩:=⟨by show (0:Int)<=0;omega,by show (0:Int)<=_;omega,by unfold A1;decide⟩;exact DS.GL (DS.ite (λhp=>DS.GL (DS.ix (by omega) (by simpa using hp) λc=>DS.ite (λ_=>adF hs iv) λ_=>Kg hs iv)) λ_=>Kg hs iv)
theorem Kh (hs:s.size<=1000000):DD 30 (λr:Mo×Bool=>A1 r.1) λn=>mA n s:=by
 obtain⟨r,σ1,hr,h1⟩:=Tl (s:=s) hs;refine⟨r,hr,λn h hn hw=>?_⟩;show Wp (mA n s) h _;unfold mA;refine (Z.start hw).new λx0 h1' z1 _=>z1.new (λx1 h2' z2 _=>z2.new (λx2 h3' z3 _=>z3.new λx3 h4' z4 _=>z4.st 0 (cs':=[vi 0]) λh5' z5=>z5.new λx5 h6' z6 _=>z6.st 0 (cs':=[Mz ⟨x0,x1,x2,x3,x5⟩]) λh7' z7=>?_));refine (h1 n ⟨x0,x1,x2,x3,x5⟩ h h7' hn z7).mono λy h8 h9=>⟨h9.1,h9.2.fr⟩
end
section
variable {α β:Type}{h h' h0:af}{L:List bu}{Q:β->af->Prop}{N M':Nat}{x:Mo}
theorem DM.succ {P:α->Prop}{l m:Nat->Nat->M α}(he:∀n a,l (n+1) a=m n a)(hm:DM N x P m):DM (N+1) x P l:=by
 obtain⟨r,hr,h1⟩:=hm;refine⟨r,hr,λn h0 h b hn z=>?_⟩;obtain⟨n,rfl⟩:∃m,n=m+1:=⟨n-1,by omega⟩;rw[he];exact h1 n h0 h b (by omega) z
theorem DM.bind {P:α->Prop}{R:β->Prop}{m:Nat->Nat->M α}{f:Nat->Nat->α->M β}(hm:DM N x P m)(hf:∀y,P y->DM N x R λn a=>f n a y):DM N x R λn a=>sh (m n a) (f n a):=by
 obtain⟨y,hy,h1⟩:=hm;obtain⟨r,hr,h2⟩:=hf y hy;refine⟨r,hr,λn h0 h b hn z=>?_⟩;show Wp (sh (m n b) (f n b)) h _;rw[ah];refine (h1 n h0 h b hn z).mono λw h3 hw=>?_;obtain⟨rfl,f3⟩:=hw;exact h2 n h0 h3 b hn f3
theorem DM.arr {R:β->Prop}{e:κ}{c0 cs:δ}{ls:List eN}{w:bS ls}{f:Nat->Nat->bS ls->M β}(h0:c0.all eZ=true)(h1:cs.all eZ=true)(h2:c0.length=cs.length)(h3:zG ls cs=some w)(h4:ls.length=cs.length)
  (hf:DM N x R λn a=>f n a w):DM N x R λn a=>sh (aM none e c0) λb=>sh (bF (an b) cs) λ_=>sh (aN ls (an b)) (f n a):=by
 obtain⟨r,hr,h5⟩:=hf;refine⟨r,hr,λn g0 h a hn z=>?_⟩;refine z.new (λb h1' z1 _=>z1.st 0 (cs':=cs) (λh2' z2=>z2.fC 0 (x:=w) (h5 n g0 h2' a hn z2.drop) rfl h3 h4) rfl ?_ ?_ h1) h0
 .show bf c0 0 cs=cs;unfold bf;rw[adQ,<-h2];simp
 .rw[h2];omega
theorem DD.arr {R:β->Prop}{e:κ}{c0 cs:δ}{ls:List eN}{w:bS ls}{f:Nat->bS ls->M β}(h0:c0.all eZ=true)(h1:cs.all eZ=true)(h2:c0.length=cs.length)(h3:zG ls cs=some w)(h4:ls.length=cs.length)
  (hf:DD N R λn=>f n w):DD N R λn=>sh (aM none e c0) λb=>sh (bF (an b) cs) λ_=>sh (aN ls (an b)) (f n):=by
 obtain⟨r,hr,h5⟩:=hf;refine⟨r,hr,λn h hn hw=>?_⟩;refine (Z.start hw).new (λb h1' z1 _=>z1.st 0 (cs':=cs) (λh2' z2=>z2.fC 0 (x:=w) ?_ rfl h3 h4) rfl ?_ ?_ h1) h0
 .exact (h5 n h2' hn z2.wf).mono λy h' hy=>⟨hy.1,iC hw z2.fr hy.2⟩
 .show bf c0 0 cs=cs;unfold bf;rw[adQ,<-h2];simp
 .rw[h2];omega
theorem ZA (w:Int×Int×Int×Int×Int):∀(k:Nat) (i:Int),0<=i->5-i<=k->DM (k+1) x (Any:Unit⊕Bool->Prop) λn a=>dW n (an a) w i:=by
 intro k
 induction k with
 |zero=>
  intro i hi hk;refine DM.succ (m:=λn a=>eP (dW n) n (an a) w i) (λ_ _=>rfl) ?_;unfold eP;exact DM.ite (λh1=>by simp only[OF] at h1;omega) λ_=>DM.pure trivial
 |succ k ih=>
  intro i hi hk;refine DM.succ (m:=λn a=>eP (dW n) n (an a) w i) (λ_ _=>rfl) ?_;unfold eP;refine DM.ite (λh1=>?_) λ_=>DM.pure trivial;simp only[OF] at h1;have e1:IntKind.i64.wrap (i+1)=i+1:=s6 (by omega) (by omega);have e3:IntKind.i64.wrap (i+3)=i+3:=s6 (by omega) (by omega);rw[e1,e3];have hix:∃v:Int,[vi w.1,vi w.2.1,vi w.2.2.1,vi w.2.2.2.1,vi w.2.2.2.2][i.toNat]?=some (vi v):=by
   have:i.toNat=0\/i.toNat=1\/i.toNat=2\/i.toNat=3\/i.toNat=4:=by omega
   rcases this with h|h|h|h|h<;>rw[h]<;>exact⟨_,rfl⟩
  obtain⟨v,hv⟩:=hix;refine DM.dd (P:=λy:Int=>y=v) ⟨v,rfl,λn h _ hw=>Yz hi (by omega) hv rfl ⟨rfl,Fr.refl hw⟩⟩ λy _=>DM.ck (by simp;omega) (DM.ld (l:=li) (o:=1+(i+3).toNat) (λb=>?_) (QK (by omega)) rfl (DM.ite (λ_=>DM.pure trivial) λ_=>ih _ (by omega) (by omega)));simp[Addr.plus]
theorem QL:DM 20 x (Any:Bool->Prop) λn a=>fN n (an a):=by
 unfold fN;refine DM.arr (ls:=[li,li,li,li,li]) (w:=(23,59,59,23,59)) rfl rfl rfl rfl rfl (DM.bind ((ZA _ 5 0 (by omega) (by omega)).le (by omega)) λy _=>?_);cases y with
 |inl v=>exact DM.pure trivial
 |inr v=>exact DM.pure trivial
theorem HY:DD 20 (Any:Bool->Prop) λn=>hC n x:=by
 unfold hC;refine DM.run (x:=x) ?_;refine DM.ld (o:=0) (λ_=>rfl) rfl rfl (DM.ite (λ_=>DM.ck (by decide) (DM.ld (o:=1) (λ_=>rfl) rfl rfl (DM.ck (by decide) (DM.ld (o:=2) (λ_=>rfl) rfl rfl (DM.ck (by decide) (DM.ld (o:=3) (λ_=>rfl) rfl rfl (DM.dd (QH _ _ _) λy _=>DM.ite (λ_=>DM.pure trivial) λ_=>QL))))))) λ_=>QL)
theorem Pf:DD 20 (Any:Int->Prop) λn=>jj n x:=by
 unfold jj;refine DM.run (x:=x) ?_;exact DM.ck (by decide) (DM.ld (o:=1) (λ_=>rfl) rfl rfl (DM.ck (by decide) (DM.ld (o:=2) (λ_=>rfl) rfl rfl (DM.ck (by decide) (DM.ld (o:=3) (λ_=>rfl) rfl rfl (DM.dd (QH _ _ _) λy _=>
  DM.ck (by decide) (DM.ld (o:=4) (λ_=>rfl) rfl rfl (DM.ck (by decide) (DM.ld (o:=5) (λ_=>rfl) rfl rfl (DM.ck (by decide) (DM.ld (o:=6) (λ_=>rfl) rfl rfl (DM.ck (by decide) (DM.ld (o:=7) (λ_=>rfl) rfl rfl (DM.ck (by decide) (DM.ld (o:=8) (λ_=>rfl) rfl rfl
   (DM.ld (l:=.int .u8) (o:=10) (λ_=>rfl) rfl rfl (DM.ite (λ_=>DM.pure trivial) λ_=>DM.pure trivial)))))))))))))))))
theorem afM (a:Int):Gh (a.tmod 60):=by
 grind
theorem Wy {a0 a1 a2:Int}(h0:Gh a0):DD 10020 (Any:ζ×Int->Prop) λn=>ij n a0 a1 a2:=by
 unfold ij;have h90:(ofBytes [90]).size=1:=rfl;refine (Zv a1).bind λy hy=>DD.ite (λ_=>DD.pure trivial) λ_=>(DD.ck (by decide)).bind λ_ _=>(DD.ck (by decide)).bind λ_ _=>(DD.ck (by decide)).bind λ_ _=>(DD.ck (by decide)).bind λ_ _=>?_;refine DD.arr (ls:=TW) (w:=((3,y.1,y.2.1,y.2.2.1,IntKind.i64.wrap (a2.tdiv 3600),(IntKind.i64.wrap (a2.tdiv 60)).tmod 60,a2.tmod 60,0,0,a0,0):Mo)) rfl rfl rfl rfl rfl ?_;exact (QJ (x:=(3,y.1,y.2.1,y.2.2.1,IntKind.i64.wrap (a2.tdiv 3600),(IntKind.i64.wrap (a2.tdiv 60)).tmod 60,a2.tmod 60,0,0,a0,0)) ⟨hy.1,hy.2.1,hy.2.2,Ww _,afM _,afM _,h0⟩).bind λz hz=>(DD.cat (by omega)).bind λ_ _=>DD.pure trivial
theorem adG {a0 a1:Int}:DD 10020 (Any:ζ×Int->Prop) λn=>nT n a0 a1:=by
 unfold nT;refine DD.ite (λ_=>DD.pure trivial) λg1=>DD.ite (λ_=>DD.pure trivial) λg2=>DD.ite (λ_=>DD.pure trivial) λ_=>DD.ite (λ_=>DD.pure trivial) λ_=>?_;simp only[OF] at g1 g2;have h0:Gh a1:=by constructor<;>omega
 unfold od;exact (DD.ck (by decide)).bind λ_ _=>(DD.ck (by decide)).bind λ_ _=>DD.ite (λ_=>Wy h0) λ_=>Wy h0
theorem DM.adH {P:α->Prop}{m:Nat->Nat->M α}(hm:DM N x P m):DD N P λn=>sh (aM none bT (mv mo0)) λb=>sh (bF (an b) (mv x)) λ_=>m n b:=by
 obtain⟨r,hr,h1⟩:=hm;exact⟨r,hr,λn h hn hw=>(Z.start hw).new λb h1' z1 f1=>z1.st 0 (cs':=mv x) (λh2' z2=>(h1 n h h2' b hn z2).mono λy h2 h3=>⟨h3.1,h3.2.fr⟩) rfl rfl (aao 11)⟩
theorem ZB (hx:A1 x):DM 10020 x (Any:ζ×Int->Prop) λn a=>mC n (an a):=by
 unfold mC;refine DM.fC (DM.dd (HY.le (by omega)) λy _=>DM.ite (λ_=>DM.pure trivial) λ_=>DM.fC (DM.ld (l:=li) (o:=9) (λ_=>rfl) rfl rfl (DM.ddc (ads:=λa=>[some ((an a).plus 9)]) (Pf.le (by omega)) (λb a hm c hc=>?_) λz _=>DM.dd adG λw _=>DM.pure trivial)));subst hc;simp[Addr.plus] at hm;subst hm;rfl
theorem Pg {s:ζ}(hs:s.size<=1000000):DD 10020 (Any:ζ×Int->Prop) λn=>mS n s:=by
 unfold mS;refine ((Kh hs).le (by omega)).bind λy hy=>DM.adH (x:=y.1) (DM.ite (λ_=>DM.pure trivial) λ_=>DM.ld (l:=.int .u8) (o:=10) (λ_=>rfl) rfl rfl (DM.ite (λ_=>DM.pure trivial) λ_=>ZB hy))
theorem Wz {s:ζ}(hs:s.size<=1000000):DD 10020 (Any:ζ×Int->Prop) λn=>sE n s:=by
 unfold sE;exact ((Kh hs).le (by omega)).bind λy hy=>DM.adH (x:=y.1) (DM.ite (λ_=>DM.pure trivial) λ_=>DM.ld (l:=.int .u8) (o:=10) (λ_=>rfl) rfl rfl (DM.ite (λ_=>DM.pure trivial) λ_=>DM.fC (DM.dd (HY.le (by omega)) λz _=>DM.ite (λ_=>DM.pure trivial) λ_=>DM.fC (DM.dd (QJ hy) λw _=>DM.pure trivial))))
theorem WA {s:ζ}(hs:s.size<=1000000):DD 10020 (Any:Int->Prop) λn=>pd n s:=by
 unfold pd;exact (Wz hs).bind λy _=>DD.ite (λ_=>DD.pure trivial) λ_=>DD.ite (λ_=>DD.pure trivial) λ_=>((Kh hs).le (by omega)).bind λz hz=>DM.adH (x:=z.1) (DM.ld (l:=li) (o:=0) (λ_=>rfl) rfl rfl (DM.pure trivial))
end
end Go.Sh
