
import Derived.Test.YtengdffgmpghgaaGreatDoorPak
import Derived.Test.YtengdffgmpghgaaGreatDoorSl0
set_option linter.all false
namespace Go.Sh
open Go Go.Ago Go.Proofs
variable {α β:Type}{h h' h0:ab}{L:List bA}{N:List ah}{S:List aK}{T:List jS}{B:Nat}{root d1:Int}{src:ζ}{dh cz tsl:Sl}{F:Nat}{Q:β->ab->Prop}
theorem ac8 {a b:Sl}{P:PT}{g g':Nat}(ra:rO h a 2 (CZ P) g)(rb:rO h b 2 (CZ P) g')(hB:P.length<1073741824):∀(n i:Nat),P.length-i<n->i<=P.length->Wp (dV n a b (i:Int)) h λy h'=>y=.inl ()/\h'=h:=by
 intro n
 induction n with
 |zero=>intro i h1;omega
 |succ n ih=>
  intro i h1 h2;have la:a.len=P.length:=by have:=ra.1;rw[ru] at this;omega
  have lb:b.len=P.length:=by have:=rb.1;rw[ru] at this;omega
  rw[tq];unfold jP;rw[la];by_cases hi:i<P.length
  .rw[By (by simp;omega)];obtain⟨x,hx⟩:=dS hi;refine ra.ixN (enc:=stV) F6 (by omega) (by omega) (by simpa using hx) λp c=>rb.ixN (enc:=stV) F6 (by omega) (by omega) (by simpa using hx) λq c2=>?_;refine c.fG (ls:=[li,.str]) (x:=x) rfl (c2.fG (ls:=[li,.str]) (x:=x) rfl ?_);rw[AT (by rw[Mn.2 rfl];simp),rR (B:=P.length) h2 hB];exact ih (i+1) (by omega) (by omega)
  .rw[AT (by simp;omega),af];exact⟨rfl,rfl⟩
theorem ac9 {a b:Sl}{P:PT}{g g':Nat}(ra:rO h a 2 (CZ P) g)(rb:rO h b 2 (CZ P) g')(hB:P.length<1073741824){n:Nat}(hn:P.length<n):Wp (gT n a b) h λy h'=>y=true/\h'=h:=by
 have la:a.len=P.length:=by have:=ra.1;rw[ru] at this;omega
 have lb:b.len=P.length:=by have:=rb.1;rw[ru] at this;omega
 unfold gT;rw[la,lb,AT (by simp),ag];refine (ac8 ra rb hB n 0 (by omega) (by omega)).mono λy h' hy=>?_;obtain⟨rfl,rfl⟩:=hy;exact af.2 ⟨rfl,rfl⟩
theorem rO.pre {s:Sl}{sz m c:Nat}{cs:δ}{g:Nat}(r:rO h s sz cs g)(hm:m<=s.len):rO h ⟨s.a.map (·.plus 0),m,c⟩ sz (cs.take (m*sz)) g:=by
 have hle:m*sz<=s.len*sz:=adr _ hm;refine⟨by rw[afd,r.1];exact akn hle,?_⟩;rcases r.2 with h0|⟨a,ha,hc⟩
 .exact .inl (by show m=0;omega)
 .exact .inr ⟨a.plus 0,by simp[ha],Cl.sub hc (o:=0) (n:=m*sz) (by have:=r.1;omega)⟩
structure ae7 (h0:ab) (dh cz tsl:Sl) (N:List ah) (S:List aK) (T:List jS) (root d1:Int) (src:ζ) (F:Nat):Prop where
 hF:F=Rd
 D:Ix h0 dh cz tsl N S T 80
 ok:HP N S
 fw:mf N
 h0:gc N root=0
 hv:sV KF d1 src N root S T=some 0
def fuT:Nat:=Rd+100000
theorem Z4 {n F:Nat}(hF:F=Rd)(h:F+80000<=n):KF+4*80+65610<n/\Rd+2*80+2<=n/\Rd+80+1<=n:=by
 rw[<-hF];have h3:KF=7000:=rfl;omega
theorem ada (C:ae7 h0 dh cz tsl N S T root d1 src F){x0 i:Nat}(hi:i<S.length){p:Sl}{g b:Nat}{l:ε}(hl:l.length<=80)(hc:∀(k:Nat) v,l[k]?=some v->∃c,gt S v=some c/\c.parent=(i:Int)/\c.entry=(k:Int)) :
  ∀(n k:Nat) (h:ab),F+80000+(l.length-k)+1<=n->k<=l.length->Z h0 h (.av b (l.map vi) ar::.sl p 2 aA (CZ (Fc N root S i)) g::DB x0 d1 src dh root cz tsl::L) ->
   Wp (dL n (ai x0) (i:Int) p (arr b l.length) (k:Int)) h λy h'=>y=.inl ()/\Z h0 h' (DB x0 d1 src dh root cz tsl::L):=by
 intro n
 induction n with
 |zero=>intro k h h1;omega
 |succ n ih=>
  intro k h h1 h2 z;have hB:S.length<=80:=C.D.hB;obtain⟨f1,f2,f3⟩:=Z4 (n:=n) C.hF (by omega);rw[sH];unfold ji;by_cases hk:k<l.length
  rotate_left
  .rw[AT (by show ¬decide ((k:Int)<((l.length:Nat):Int))=true;simp;omega)];exact af.2 ⟨rfl,z.drop.drop⟩
  rw[By (by show decide ((k:Int)<((l.length:Nat):Int))=true;simp;omega)];obtain⟨v,hv⟩:=dS hk;obtain⟨c,hgc,hp,he⟩:=hc k v hv;obtain⟨v0,hcv⟩:=ay hgc;have hvn:v=((v.toNat:Nat):Int):=by omega
  have hlt:v.toNat<S.length:=(List.getElem?_eq_some_iff.1 hcv).1;have il:∀{h9:ab} {L9:List bA},Z h0 h9 L9->bA.av b (l.map vi) ar∈L9->IL h9 (arr b l.length) l:=λz hm=>by
   have lb:LB _ b (l.map vi) ar:=(z.own _ hm).1;exact⟨_,lb.Fi (n:=l.length) (sz:=1) (by simp)⟩
  refine (il z IT).ix (by omega) (by simpa using hv) λa g1 c1=>?_;refine z.fG 2 (ls:=[li,.str,.sl,li,.sl,.sl]) (x:=(d1,src,dh,root,cz,tsl)) ?_;refine c1.rz (l:=li) rfl rfl ?_;rw[hvn,ag];refine (Tk C.D C.ok C.fw (C.fw.vdg C.h0) z f1 f3 C.hv hlt).mono λy h3 hy=>?_;obtain⟨y1,y2⟩:=y;obtain⟨rfl,g',z⟩:=hy;have hj0:0<v.toNat:=Nat.pos_of_ne_zero λe=>by
   have:=C.ok.fst c (by rw[<-e];exact hcv);omega
  have hup:=ZY (N:=N) (root:=root) C.ok hj0 hcv hp;have oq:wq h3 y1 2 aA (CZ (Fc N root S v.toNat)) g':=z.get 0 rfl;have op:wq h3 p 2 aA (CZ (Fc N root S i)) g:=z.get 2 rfl;have lq:y1.len=(Fc N root S i).length+1:=by have:=oq.1;rw[ru,hup,aa8] at this;simp at this;omega
  have lp:p.len=(Fc N root S i).length:=by have:=op.1;rw[ru] at this;omega
  have pl:(Fc N root S i).length<=80:=by unfold Fc;rw[ae1];have:=Tj C.ok i hi;omega
  rw[AT (by simp),AT (by show ¬(!decide ((y1.len:Int)=_))=true;rw[lq,lp,tA (by omega) (by omega)];simp),ag];refine wT (by decide) (by omega) (by rw[lq,lp];omega) ?_ ?_
  .rcases oq.2 with⟨e,_⟩|⟨_,_,_,bl,base,q1,q2,_⟩
   .rw[e] at lq;simp at lq
   .simp[jd,q1,q2]
  rw[ag];have rq:=rO.pre oq.Fi (m:=p.len) (c:=y1.cap-(if y1.cap=0 then 0 else (0:Int).toNat)) (by omega);have et:(CZ (Fc N root S v.toNat)).take (p.len*2)=CZ (Fc N root S i):=by
   rw[hup,lp,<-ru];unfold CZ;rw[akq,List.take_left]
  rw[et] at rq;refine (ac9 (P:=Fc N root S i) rq op.Fi (by omega) (n:=n) (by omega)).mono λy h4 hy=>?_;obtain⟨rfl,rfl⟩:=hy;rw[AT (by decide)];refine (il z (IN _ IT)).ix (by omega) (by simpa using hv) λa3 g3 c3=>?_;refine z.ld 3 (o:=4) (l:=.sl) (x:=cz) ?_;refine c3.rz (l:=li) rfl rfl ?_;refine C.D.R.at z hgc λa5 c5=>c5.ld 2 (l:=li) (y:=c.entry) ?_;rw[AT (by simp[he]),rR (B:=80) (by omega) (by omega)];exact ih (k+1) h4 (by omega) (by omega) z.drop
theorem adb (C:ae7 h0 dh cz tsl N S T root d1 src F){x0:Nat}:∀(n i:Nat) (h:ab),F+80000+100+(S.length-i)+1<=n->i<=S.length->Z h0 h (DB x0 d1 src dh root cz tsl::L) ->
  Wp (cn n (ai x0) (i:Int)) h λy h'=>y=.inl ():=by
 intro n
 induction n with
 |zero=>intro i h h1;omega
 |succ n ih=>
  intro i h h1 h2 z;have hB:S.length<=80:=C.D.hB;obtain⟨f1,f2,f3⟩:=Z4 (n:=n) C.hF (by omega);rw[sI];unfold jj;refine z.ld 0 (o:=4) (l:=.sl) (x:=cz) ?_;rw[C.D.R.len];by_cases hi:i<S.length
  rotate_left
  .rw[AT (by simp;omega)];exact af.2 rfl
  rw[By (by simp;omega)];refine z.fG 0 (ls:=[li,.str,.sl,li,.sl,.sl]) (x:=(d1,src,dh,root,cz,tsl)) ?_;rw[ag];refine (Tk C.D C.ok C.fw (C.fw.vdg C.h0) z f1 f3 C.hv hi).mono λy h3 hy=>?_;obtain⟨p,e⟩:=y;obtain⟨rfl,g,z⟩:=hy;refine z.fG 1 (ls:=[li,.str,.sl,li,.sl,.sl]) (x:=(d1,src,dh,root,cz,tsl)) ?_;rw[ag];refine (ac7 C.D C.ok C.fw C.h0 z f1 f2 C.hv hi).mono λy h4 hy=>?_;obtain⟨rfl,z⟩:=hy;rw[AT (by simp),AT (by simp),AT (by simp)];unfold gX;refine z.fG 1 (ls:=[li,.str,.sl,li,.sl,.sl]) (x:=(d1,src,dh,root,cz,tsl)) ?_;obtain⟨x,hx⟩:=dS hi;have hcl:=yi (i:Int) S 0;have hord:∃l,D2 S (List.replicate (mh 0 S (i:Int)).length 0) (mh 0 S (i:Int))=some l/\∀(k:Nat) v,l[k]?=some v->∃c,gt S v=some c/\c.parent=(i:Int)/\c.entry=(k:Int):=by
   cases ha:x.alias with
   |false=>
    obtain⟨l,e,g1,_,g3⟩:=Jb C.ok hx ha;obtain⟨q1,q2⟩:=C.ok.chd i x hx ha;refine⟨l,e,λk v hv=>?_⟩;obtain⟨v',c,r1,r2,r3,r4⟩:=ac1 (S:=S) g1 q1 q2 (λv hv c hc=>g3 v c hc (by
     obtain⟨c',hc',hp'⟩:=BX.1 hv;rw[hc] at hc';cases hc';exact hp')) (List.getElem?_eq_some_iff.1 hv).1
    rw[hv] at r1;cases r1;obtain⟨c',hc',hp'⟩:=BX.1 r2;rw[r3] at hc';cases hc';exact⟨c,r3,hp',r4⟩
   |true=>
    have:mh 0 S (i:Int)=[]:=by
     refine List.eq_nil_iff_forall_not_mem.2 λc hc=>?_;obtain⟨y,hy,hp⟩:=BX.1 hc;obtain⟨g1,g2⟩:=ay hy;obtain⟨_,x',_,hx',ha',_⟩:=C.ok.child g2 hp;rw[hx] at hx';cases hx';rw[ha] at ha';cases ha'
    rw[this];exact⟨_,rfl,λk v hv=>by simp at hv⟩
  obtain⟨l,hl,hlc⟩:=hord;rw[ag];refine (OP C.D z f1 C.hv hi hl).mono λy h5 hy=>?_;obtain⟨b,rfl,hll,z⟩:=hy;rw[<-hll,ag];refine (ada C hi (by omega) hlc n 0 h5 (by omega) (by omega) z).mono λy h6 hy=>?_;obtain⟨rfl,z⟩:=hy;show Wp (cn n (ai x0) (IntKind.i64.wrap ((i:Int)+1))) h6 _;rw[rR (B:=80) (by omega) (by omega)];exact ih (i+1) h6 (by omega) (by omega) z
theorem Z5 (hw:WF h0)(G:oj h0 dh N)(R:SR h0 cz S)(RT:Vs h0 tsl T)(hE:∀h',Fr (λ_=>False) h0 h'->cz.len≠0->jd h' cz bJ=true) :
  Wp (mQ fuT (d1,src,dh,root,cz,tsl)) h0 λx _=>x=true:=by
 obtain⟨F,hF⟩:∃F,F=Rd:=⟨_,rfl⟩;obtain⟨n,hn⟩:∃n,n=F+100000:=⟨_,rfl⟩;have e:fuT=n:=by rw[hn,hF];rfl
 rw[e];clear e;obtain⟨f1,f2,f3⟩:=Z4 (n:=n) hF (by omega);unfold mQ;refine (Z.start hw).new λx0 h1 z _=>?_;rw[ag];refine af.2 ?_;rw[AT (by decide)];refine z.fG 0 (ls:=[li,.str,.sl,li,.sl,.sl]) (x:=(d1,src,dh,root,cz,tsl)) ?_;rw[ag];refine (ZV G R RT z (by omega)).mono λy h3 hy=>?_;obtain⟨fw,z⟩:=hy;cases y with
 |false=>rw[By (by rfl),af]
 |true=>
 have fw:=fw rfl;rw[AT (by decide)];refine z.fG 0 (ls:=[li,.str,.sl,li,.sl,.sl]) (x:=(d1,src,dh,root,cz,tsl)) ?_;have D:Ix h0 dh cz tsl N S T 80:=⟨G,⟨by have:=fw.g.n;omega,by decide,λx hx=>(fw.g.x x hx).2⟩,λx hx=>by have:=(fw.g.x x hx).1;omega,R,RT,hE,by have:=fw.s;omega,by have:=fw.t;omega⟩;have fm:mf N:=⟨fw.g.n,λx hx=>⟨(fw.g.x x hx).2.2,(fw.g.x x hx).2.1⟩,λx hx=>by have:=(fw.g.x x hx).1;omega⟩;obtain⟨r,hr,hok⟩:=OO (root:=root) (S:=S) D.hN.2.2 D.hN.1 D.hN.2.1 fm.k0 d1 src T;rw[ag];refine (D.check z f1 hr).mono λy h4 hy=>?_;obtain⟨rfl,z⟩:=hy;by_cases h0':y=0
 rotate_left
 .rw[By (by simpa using h0'),af]
 rw[AT (by simpa using h0')];subst h0';have ok:=hok rfl;have hgc:gc N root=0:=by
  have e:=fm.gc root;have hr2:=hr;unfold sV occs at hr2;rw[e] at hr2;refine ae3 λhne=>?_;split at hr2
  .cases hr2
  split at hr2
  .cases hr2
  simp[hne] at hr2
 rw[ag];refine (adb ⟨hF,D,ok,fm,hgc,hr⟩ n 0 h4 (by have:=D.hB;omega) (by omega) z).mono λy h5 hy=>?_;obtain rfl:=hy;show Wp (AI true) h5 _;rw[af]
end Go.Sh
