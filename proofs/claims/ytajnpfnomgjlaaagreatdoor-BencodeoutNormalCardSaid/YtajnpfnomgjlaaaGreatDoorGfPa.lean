
import Derived.Test.YtajnpfnomgjlaaaGreatDoorGc
import Derived.Test.YtajnpfnomgjlaaaGreatDoorPab
set_option linter.all false
namespace Go.Sh
open Go Go.Ago Go.Proofs
variable {α β:Type}{h h' h0:ai}{L:List bG}{Q:β->ai->Prop}{N M':Nat}
theorem DD.succ {P:α->Prop}{l m}(he:∀n,l (n+1)=m n)(hm:DD N P m):DD (N+1) P l:=by
 obtain⟨r,hr,h1⟩:=hm;refine⟨r,hr,λn h hn hw=>?_⟩;obtain⟨n,rfl⟩:∃m,n=m+1:=⟨n-1,by omega⟩;rw[he];exact h1 n h (by omega) hw
theorem abx {s}(hs:s.size<=65536):∀(k:Nat) (i:Int),0<=i->s.size-i<=k->DD (k+1) (Any:Unit⊕Bool->Prop) λn=>kX n s (s.size:Int) i:=by
 intro k
 induction k with
 |zero=>
  intro i hi hk;refine DD.succ (m:=λn=>kj (kX n) n s (s.size:Int) i) (λ_=>rfl) ?_;unfold kj;exact DD.ite (λh1=>by simp at h1;omega) λ_=>DD.pure trivial
 |succ k ih=>
  intro i hi hk;refine DD.succ (m:=λn=>kj (kX n) n s (s.size:Int) i) (λ_=>rfl) ?_;unfold kj;refine DD.ite (λh1=>?_) λ_=>DD.pure trivial;simp at h1;have e:IntKind.i64.wrap (i+1)=i+1:=xG (by omega) (by omega);have hlt:i.toNat<s.size:=by omega
  have ih':=ih (i+1) (by omega) (by omega);rw[<-e] at ih';refine DD.bind (P:=Any) ⟨s[i.toNat],trivial,λn h _ hw=>jW.2 ⟨_,hi,getElem?_pos s i.toNat hlt,rfl,Fr.refl hw⟩⟩ λc _=>?_;clear ih;generalize (c.toNat:Int)=C
  repeat' first|exact ih' | exact DD.pure trivial|refine DD.ite (λ_=>?_) (λ_=>?_)
theorem Ls {s}(hs:s.size<=65536):DD 65538 (Any:Bool->Prop) λn=>tF n s:=by
 unfold tF;refine ((abx hs s.size 0 (by omega) (by omega)).le (by omega)).bind λy _=>?_;cases y with
 |inl v=>exact DD.ite (λ_=>DD.pure trivial) λ_=>DD.pure trivial
 |inr v=>exact DD.pure trivial
theorem Rr {s}(hs:s.size<=65536):DD 10020 (Any:Bool->Prop) λn=>sh (kq n s) λx0=>if decide (x0.2=0) then AI (qE x0.1 s) else AI false:=
 (P5 (by omega)).bind λy _=>DD.ite (λ_=>DD.pure trivial) λ_=>DD.pure trivial
theorem Ye {s}(hs:s.size<=65536):DD 10020 (Any:Bool->Prop) λn=>sh (nB n s) λx0=>AI !decide (x0=0):=
 (Yd (by omega)).bind λy _=>DD.pure trivial
noncomputable def adB (s:ζ):Bool:=if hs:s.size<=65536 then (Ls hs).choose else false
noncomputable def adC (s:ζ):Bool:=if hs:s.size<=65536 then (Rr hs).choose else false
noncomputable def ahq (s:ζ):Bool:=if hs:s.size<=65536 then (Ye hs).choose else false
noncomputable def NG (k:Int)(t:ζ):Option Bool:=
 if k=0 then some (qE t (ofBytes []))
 else if k=1 then some (qE t (ofBytes [116,114,117,101])||qE t (ofBytes [102,97,108,115,101]))
 else if k=2 then some (tk t)
 else if k=5 then some (decide (V3 (tD t (t.size+1) 0)=0))
 else if k=6 then some true
 else if k=3 then some (G4 t)
 else if k=4 then some (afj t)
 else if k=7 then some (adC t)
 else if k=8 then some (ahq t)
 else some false
noncomputable def ru (x:av):Option Bool:=
 if x.kind=9 then some (qE x.text (ofBytes [])&&!x.ord&&decide (x.keys.length=0))
 else if x.kind=10 then some (qE x.text (ofBytes [])&&decide (x.keys.length=x.items.length))
 else if x.kind=11 then some (adB x.text&&!x.ord&&decide (x.keys.length=0)&&decide (x.items.length=1))
 else if x.ord=false/\x.keys.length=0/\x.items.length=0 then NG x.kind x.text else some false
theorem P6 k t:∃r,NG k t=some r:=by
 unfold NG
 repeat' split
 all_goals exact⟨_,rfl⟩
theorem P7 x:∃r,ru x=some r:=by
 unfold ru
 repeat' split
 all_goals first|exact⟨_,rfl⟩|exact P6 _ _
theorem Uv {k t n}(z:Z h0 h L)(hs:t.size<=65536)(hn:65538<=n){r}(hr:NG k t=some r):Wp (oV n k t) h λx h'=>x=r/\Z h0 h' L:=by
 unfold oV;unfold NG at hr;by_cases h0:k=0
 .rw[By h0] at hr;cases hr;rw[By (by simpa using h0),ag];exact⟨rfl,z⟩
 rw[AT h0] at hr;rw[AT (by simpa using h0)];by_cases h1:k=1
 .rw[By h1] at hr;cases hr;rw[By (by simpa using h1)];cases he:qE t (ofBytes [116,114,117,101]) with
  |true=>rw[By rfl,ag];exact⟨rfl,z⟩
  |false=>rw[AT (by simp),ag];exact⟨rfl,z⟩
 rw[AT h1] at hr;rw[AT (by simpa using h1)];by_cases h2:k=2
 .rw[By h2] at hr;cases hr;rw[By (by simpa using h2),ah];refine (xz hs (by omega) z.wf).mono λx h' hx=>?_;rw[ag];exact⟨hx.1,z.pure hx.2⟩
 rw[AT h2] at hr;rw[AT (by simpa using h2)];by_cases h5:k=5
 .rw[By h5] at hr;cases hr;subst h5;rw[AT (by decide),AT (by decide),By (by decide)];unfold ma;rw[ah,ag,ag];exact⟨rfl,z⟩
 rw[AT h5] at hr;by_cases h6:k=6
 .rw[By h6] at hr;cases hr;subst h6;rw[AT (by decide),AT (by decide),AT (by decide),By (by decide),ag];exact⟨rfl,z⟩
 rw[AT h6] at hr;by_cases h3:k=3
 .rw[By h3] at hr;cases hr;rw[By (by simpa using h3),ah];refine (DV hs (by omega) z.wf).mono λx h' hx=>?_;rw[ag];exact⟨hx.1,z.pure hx.2⟩
 rw[AT h3] at hr;rw[AT (by simpa using h3)];by_cases h4:k=4
 .rw[By h4] at hr;cases hr;rw[By (by simpa using h4),ah];refine (Fc hs z.wf).mono λx h' hx=>?_;rw[ag];exact⟨hx.1,z.pure hx.2⟩
 rw[AT h4] at hr;rw[AT (by simpa using h4),AT (by simpa using h5),AT (by simpa using h6)];by_cases h7:k=7
 .rw[By h7] at hr;cases hr;rw[By (by simpa using h7)];unfold adC;rw[dif_pos hs];exact ((Rr hs).choose_spec.2 n h (by omega) z.wf).mono λx h' hx=>⟨hx.1,z.pure hx.2⟩
 rw[AT h7] at hr;rw[AT (by simpa using h7)];by_cases h8:k=8
 .rw[By h8] at hr;cases hr;rw[By (by simpa using h8)];unfold ahq;rw[dif_pos hs];exact ((Ye hs).choose_spec.2 n h (by omega) z.wf).mono λx h' hx=>⟨hx.1,z.pure hx.2⟩
 rw[AT h8] at hr;cases hr;rw[AT (by simpa using h8),ag];exact⟨rfl,z⟩
theorem aby {x ks is n}(z:Z h0 h L)(ik:IL h0 ks x.keys)(ii:IL h0 is x.items)(hs:x.text.size<=65536)(hn:65538<=n){r}(hr:ru x=some r) :
  Wp (tL n (x.kind,x.text,x.ord,ks,is)) h λy h'=>y=r/\Z h0 h' L:=by
 unfold tL;unfold ru at hr;refine z.new λb h1 z f1=>?_;refine z.ld 0 (x:=x.kind) ?_;by_cases h9:x.kind=9
 .rw[By h9] at hr;cases hr;rw[By (by simpa using h9)];refine z.ld 0 (x:=x.text) ?_;cases he:qE x.text (ofBytes []) with
  |false=>rw[AT (by simp),ag];exact⟨by simp,z.drop⟩
  |true=>
   rw[By rfl];refine z.ld 0 (x:=x.ord) ?_;cases ho:x.ord with
   |true=>rw[AT (by simp),ag];exact⟨by simp,z.drop⟩
   |false=>
    rw[By (by simp)];refine z.ld 0 (x:=ks) ?_;rw[ag];exact⟨by simp[ik.len],z.drop⟩
 rw[AT h9] at hr;rw[AT (by simpa using h9)];by_cases h10:x.kind=10
 .rw[By h10] at hr;cases hr;rw[By (by simpa using h10)];refine z.ld 0 (x:=x.text) ?_;cases he:qE x.text (ofBytes []) with
  |false=>rw[AT (by simp),ag];exact⟨by simp,z.drop⟩
  |true=>
   rw[By rfl];refine z.ld 0 (x:=ks) ?_;refine z.ld 0 (x:=is) ?_;rw[ag];refine⟨?_,z.drop⟩;rw[ik.len,ii.len];simp[Int.natCast_inj]
 rw[AT h10] at hr;rw[AT (by simpa using h10)];by_cases h11:x.kind=11
 .rw[By h11] at hr;cases hr;rw[By (by simpa using h11)];refine z.ld 0 (x:=x.text) ?_;rw[ah];unfold adB;rw[dif_pos hs];refine ((Ls hs).choose_spec.2 n _ hn z.wf).mono λy h' hy=>?_;obtain⟨rfl,f⟩:=hy;have z:=z.pure f;generalize (Ls hs).choose=y;cases y with
  |false=>rw[AT (by simp),ag];exact⟨by simp,z.drop⟩
  |true=>
   rw[By rfl];refine z.ld 0 (x:=x.ord) ?_;cases ho:x.ord with
   |true=>rw[AT (by simp),ag];exact⟨by simp,z.drop⟩
   |false=>
    rw[By (by simp)];refine z.ld 0 (x:=ks) ?_;by_cases hk:x.keys.length=0
    .rw[By (by simp[ik.len,hk])];refine z.ld 0 (x:=is) ?_;rw[ag];refine⟨?_,z.drop⟩;rw[ii.len]
     grind
    .rw[AT (by simp[ik.len];exact λe=>hk (by simp[e])),ag];refine⟨by simp[hk],z.drop⟩
 rw[AT h11] at hr;rw[AT (by simpa using h11)];refine z.ld 0 (x:=x.ord) ?_;cases ho:x.ord with
 |true=>
  rw[ho,AT (by simp)] at hr;cases hr;rw[AT (by simp),ag];exact⟨rfl,z.drop⟩
 |false=>
  rw[ho] at hr;rw[By (by simp)];refine z.ld 0 (x:=ks) ?_;by_cases hk:x.keys.length=0
  .rw[By (by simp[ik.len,hk])];refine z.ld 0 (x:=is) ?_;by_cases hi:x.items.length=0
   .rw[By (by simp[ii.len,hi])];rw[By ⟨rfl,hk,hi⟩] at hr;refine z.ld 0 (x:=x.kind) ?_;refine z.ld 0 (x:=x.text) ?_;rw[ah];refine (Uv z hs hn hr).mono λy h' hy=>?_;rw[ag];exact⟨hy.1,hy.2.drop⟩
   .rw[AT (by simp[ii.len];exact λe=>hi (by simp[e])),ag];rw[AT (λe=>hi e.2.2)] at hr;cases hr;exact⟨rfl,z.drop⟩
  .rw[AT (by simp[ik.len];exact λe=>hk (by simp[e])),ag];rw[AT (λe=>hk e.2.1)] at hr;cases hr;exact⟨rfl,z.drop⟩
end Go.Sh
