
import Derived.Test.YtmfkngdglbcngaaGreatDoorGc
import Derived.Test.YtmfkngdglbcngaaGreatDoorPab
set_option linter.all false
namespace Go.Sh
open Go Go.Ago Go.Proofs
variable {α β:Type}{h h' h0:af}{L:List bu}{Q:β->af->Prop}{N M':Nat}
theorem DD.succ {P:α->Prop}{l m:Nat->M α}(he:∀n,l (n+1)=m n)(hm:DD N P m):DD (N+1) P l:=by
 obtain⟨r,hr,h1⟩:=hm;refine⟨r,hr,λn h hn hw=>?_⟩;obtain⟨n,rfl⟩:∃m,n=m+1:=⟨n-1,by omega⟩;rw[he];exact h1 n h (by omega) hw
theorem ZC {s:ζ}(hs:s.size<=65536):∀(k:Nat) (i:Int),0<=i->s.size-i<=k->DD (k+1) (Any:Unit⊕Bool->Prop) λn=>nh n s (s.size:Int) i:=by
 intro k
 induction k with
 |zero=>
  intro i hi hk;refine DD.succ (m:=λn=>mP (nh n) n s (s.size:Int) i) (λ_=>rfl) ?_;unfold mP;exact DD.ite (λh1=>by simp only[OF] at h1;omega) λ_=>DD.pure trivial
 |succ k ih=>
  intro i hi hk;refine DD.succ (m:=λn=>mP (nh n) n s (s.size:Int) i) (λ_=>rfl) ?_;unfold mP;refine DD.ite (λh1=>?_) λ_=>DD.pure trivial;simp only[OF] at h1;have e:IntKind.i64.wrap (i+1)=i+1:=s6 (by omega) (by omega);have hlt:i.toNat<s.size:=by omega
  have ih':=ih (i+1) (by omega) (by omega);rw[<-e] at ih';refine DD.bind (P:=Any) ⟨s[i.toNat],trivial,λn h _ hw=>fE.2 ⟨_,hi,getElem?_pos s i.toNat hlt,rfl,Fr.refl hw⟩⟩ λc _=>?_;clear ih;generalize (c.toNat:Int)=C
  repeat' first|exact ih' | exact DD.pure trivial|refine DD.ite (λ_=>?_) (λ_=>?_)
theorem Ki {s:ζ}(hs:s.size<=65536):DD 65538 (Any:Bool->Prop) λn=>w4 n s:=by
 unfold w4;refine ((ZC hs s.size 0 (by omega) (by omega)).le (by omega)).bind λy _=>?_;cases y with
 |inl v=>exact DD.ite (λ_=>DD.pure trivial) λ_=>DD.pure trivial
 |inr v=>exact DD.pure trivial
theorem QM {s:ζ}(hs:s.size<=65536):DD 10020 (Any:Bool->Prop) λn=>sh (mS n s) λx0=>if decide (x0.2=0) then AI (mX x0.1 s) else AI false:=
 (Pg (by omega)).bind λy _=>DD.ite (λ_=>DD.pure trivial) λ_=>DD.pure trivial
theorem WB {s:ζ}(hs:s.size<=65536):DD 10020 (Any:Bool->Prop) λn=>sh (pd n s) λx0=>AI !decide (x0=0):=
 (WA (by omega)).bind λy _=>DD.pure trivial
noncomputable def abH (s:ζ):Bool:=if hs:s.size<=65536 then (Ki hs).choose else false
noncomputable def abI (s:ζ):Bool:=if hs:s.size<=65536 then (QM hs).choose else false
noncomputable def afN (s:ζ):Bool:=if hs:s.size<=65536 then (WB hs).choose else false
noncomputable def DG (k:Int)(t:ζ):Option Bool:=
 if k=0 then some (mX t (ofBytes []))
 else if k=1 then some (mX t (ofBytes [116,114,117,101])||mX t (ofBytes [102,97,108,115,101]))
 else if k=2 then some (oT t)
 else if k=5 then some (decide (UZ (tV t (t.size+1) 0)=0))
 else if k=6 then some true
 else if k=3 then some (Gd t)
 else if k=4 then some (adv t)
 else if k=7 then some (abI t)
 else if k=8 then some (afN t)
 else some false
noncomputable def jQ (x:ak):Option Bool:=
 if x.kind=9 then some (mX x.text (ofBytes [])&&!x.ord&&decide (x.keys.length=0))
 else if x.kind=10 then some (mX x.text (ofBytes [])&&decide (x.keys.length=x.items.length))
 else if x.kind=11 then some (abH x.text&&!x.ord&&decide (x.keys.length=0)&&decide (x.items.length=1))
 else if x.ord=false/\x.keys.length=0/\x.items.length=0 then DG x.kind x.text else some false
theorem Ph (k:Int)(t:ζ):∃r,DG k t=some r:=by
 unfold DG
 repeat' split
 all_goals exact⟨_,rfl⟩
theorem Pj (x:ak):∃r,jQ x=some r:=by
 unfold jQ
 repeat' split
 all_goals first|exact⟨_,rfl⟩|exact Ph _ _
theorem Tm {k:Int}{t:ζ}{n:Nat}(z:Z h0 h L)(hs:t.size<=65536)(hn:65538<=n){r:Bool}(hr:DG k t=some r):Wp (tX n k t) h λx h'=>x=r/\Z h0 h' L:=by
 unfold tX;unfold DG at hr;by_cases h0:k=0
 .rw[AT h0] at hr;cases hr;rw[AT (by simpa using h0),ag];exact⟨rfl,z⟩
 rw[By h0] at hr;rw[By (by simpa using h0)];by_cases h1:k=1
 .rw[AT h1] at hr;cases hr;rw[AT (by simpa using h1)];cases he:mX t (ofBytes [116,114,117,101]) with
  |true=>rw[AT rfl,ag];exact⟨rfl,z⟩
  |false=>rw[By (by simp),ag];exact⟨rfl,z⟩
 rw[By h1] at hr;rw[By (by simpa using h1)];by_cases h2:k=2
 .rw[AT h2] at hr;cases hr;rw[AT (by simpa using h2),ah];refine (wz hs (by omega) z.wf).mono λx h' hx=>?_;rw[ag];exact⟨hx.1,z.pure hx.2⟩
 rw[By h2] at hr;rw[By (by simpa using h2)];by_cases h5:k=5
 .rw[AT h5] at hr;cases hr;subst h5;rw[By (by decide),By (by decide),AT (by decide)];unfold px;rw[ah,ag,ag];exact⟨rfl,z⟩
 rw[By h5] at hr;by_cases h6:k=6
 .rw[AT h6] at hr;cases hr;subst h6;rw[By (by decide),By (by decide),By (by decide),AT (by decide),ag];exact⟨rfl,z⟩
 rw[By h6] at hr;by_cases h3:k=3
 .rw[AT h3] at hr;cases hr;rw[AT (by simpa using h3),ah];refine (CP hs (by omega) z.wf).mono λx h' hx=>?_;rw[ag];exact⟨hx.1,z.pure hx.2⟩
 rw[By h3] at hr;rw[By (by simpa using h3)];by_cases h4:k=4
 .rw[AT h4] at hr;cases hr;rw[AT (by simpa using h4),ah];refine (Ea hs z.wf).mono λx h' hx=>?_;rw[ag];exact⟨hx.1,z.pure hx.2⟩
 rw[By h4] at hr;rw[By (by simpa using h4),By (by simpa using h5),By (by simpa using h6)];by_cases h7:k=7
 .rw[AT h7] at hr;cases hr;rw[AT (by simpa using h7)];unfold abI;rw[dif_pos hs];exact ((QM hs).choose_spec.2 n h (by omega) z.wf).mono λx h' hx=>⟨hx.1,z.pure hx.2⟩
 rw[By h7] at hr;rw[By (by simpa using h7)];by_cases h8:k=8
 .rw[AT h8] at hr;cases hr;rw[AT (by simpa using h8)];unfold afN;rw[dif_pos hs];exact ((WB hs).choose_spec.2 n h (by omega) z.wf).mono λx h' hx=>⟨hx.1,z.pure hx.2⟩
 rw[By h8] at hr;cases hr;rw[By (by simpa using h8),ag];exact⟨rfl,z⟩
theorem ZD {x:ak}{ks is:Sl}{n:Nat}(z:Z h0 h L)(ik:IL h0 ks x.keys)(ii:IL h0 is x.items)(hs:x.text.size<=65536)(hn:65538<=n){r:Bool}(hr:jQ x=some r) :
  Wp (xc n (x.kind,x.text,x.ord,ks,is)) h λy h'=>y=r/\Z h0 h' L:=by
 unfold xc;unfold jQ at hr;refine z.new λb h1 z f1=>?_;refine z.ld 0 (o:=0) (l:=li) (x:=x.kind) ?_;by_cases h9:x.kind=9
 .rw[AT h9] at hr;cases hr;rw[AT (by simpa using h9)];refine z.ld 0 (o:=1) (l:=.str) (x:=x.text) ?_;cases he:mX x.text (ofBytes []) with
  |false=>rw[By (by simp),ag];exact⟨by simp,z.drop⟩
  |true=>
   rw[AT rfl];refine z.ld 0 (o:=2) (l:=.bool) (x:=x.ord) ?_;cases ho:x.ord with
   |true=>rw[By (by simp),ag];exact⟨by simp,z.drop⟩
   |false=>
    rw[AT (by simp)];refine z.ld 0 (o:=3) (l:=.sl) (x:=ks) ?_;rw[ag];exact⟨by simp[ik.len],z.drop⟩
 rw[By h9] at hr;rw[By (by simpa using h9)];by_cases h10:x.kind=10
 .rw[AT h10] at hr;cases hr;rw[AT (by simpa using h10)];refine z.ld 0 (o:=1) (l:=.str) (x:=x.text) ?_;cases he:mX x.text (ofBytes []) with
  |false=>rw[By (by simp),ag];exact⟨by simp,z.drop⟩
  |true=>
   rw[AT rfl];refine z.ld 0 (o:=3) (l:=.sl) (x:=ks) ?_;refine z.ld 0 (o:=4) (l:=.sl) (x:=is) ?_;rw[ag];refine⟨?_,z.drop⟩;rw[ik.len,ii.len];simp[Int.natCast_inj]
 rw[By h10] at hr;rw[By (by simpa using h10)];by_cases h11:x.kind=11
 .rw[AT h11] at hr;cases hr;rw[AT (by simpa using h11)];refine z.ld 0 (o:=1) (l:=.str) (x:=x.text) ?_;rw[ah];unfold abH;rw[dif_pos hs];refine ((Ki hs).choose_spec.2 n _ hn z.wf).mono λy h' hy=>?_;obtain⟨rfl,f⟩:=hy;have z:=z.pure f;generalize (Ki hs).choose=y;cases y with
  |false=>rw[By (by simp),ag];exact⟨by simp,z.drop⟩
  |true=>
   rw[AT rfl];refine z.ld 0 (o:=2) (l:=.bool) (x:=x.ord) ?_;cases ho:x.ord with
   |true=>rw[By (by simp),ag];exact⟨by simp,z.drop⟩
   |false=>
    rw[AT (by simp)];refine z.ld 0 (o:=3) (l:=.sl) (x:=ks) ?_;by_cases hk:x.keys.length=0
    .rw[AT (by simp[ik.len,hk])];refine z.ld 0 (o:=4) (l:=.sl) (x:=is) ?_;rw[ag];refine⟨?_,z.drop⟩;rw[ii.len]
     grind
    .rw[By (by simp[ik.len];exact λe=>hk (by simp[e])),ag];refine⟨by simp[hk],z.drop⟩
 rw[By h11] at hr;rw[By (by simpa using h11)];refine z.ld 0 (o:=2) (l:=.bool) (x:=x.ord) ?_;cases ho:x.ord with
 |true=>
  rw[ho,By (by simp)] at hr;cases hr;rw[By (by simp),ag];exact⟨rfl,z.drop⟩
 |false=>
  rw[ho] at hr;rw[AT (by simp)];refine z.ld 0 (o:=3) (l:=.sl) (x:=ks) ?_;by_cases hk:x.keys.length=0
  .rw[AT (by simp[ik.len,hk])];refine z.ld 0 (o:=4) (l:=.sl) (x:=is) ?_;by_cases hi:x.items.length=0
   .rw[AT (by simp[ii.len,hi])];rw[AT ⟨rfl,hk,hi⟩] at hr;refine z.ld 0 (o:=0) (l:=li) (x:=x.kind) ?_;refine z.ld 0 (o:=1) (l:=.str) (x:=x.text) ?_;rw[ah];refine (Tm z hs hn hr).mono λy h' hy=>?_;rw[ag];exact⟨hy.1,hy.2.drop⟩
   .rw[By (by simp[ii.len];exact λe=>hi (by simp[e])),ag];rw[By (λe=>hi e.2.2)] at hr;cases hr;exact⟨rfl,z.drop⟩
  .rw[By (by simp[ik.len];exact λe=>hk (by simp[e])),ag];rw[By (λe=>hk e.2.1)] at hr;cases hr;exact⟨rfl,z.drop⟩
end Go.Sh
