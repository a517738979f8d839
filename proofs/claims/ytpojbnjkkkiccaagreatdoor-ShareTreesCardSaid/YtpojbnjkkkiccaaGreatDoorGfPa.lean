
import Derived.Test.YtpojbnjkkkiccaaGreatDoorGc
import Derived.Test.YtpojbnjkkkiccaaGreatDoorPac
set_option linter.all false
namespace Go.Sh
open Go Go.Ago Go.Proofs
variable {α β:Type}{h h' h0:ai}{L:List aZ}{Q:β->ai->Prop}{N M':Nat}
theorem DD.succ {P:α->Prop}{l m:Nat->M α}(he:∀n,l (n+1)=m n)(hm:DD N P m):DD (N+1) P l:=by
 obtain⟨r,hr,h1⟩:=hm;refine⟨r,hr,λn h hn hw=>?_⟩;obtain⟨n,rfl⟩:∃m,n=m+1:=⟨n-1,by omega⟩;rw[he];exact h1 n h (by omega) hw
def NmP (s:ζ)(i:Int)(r:Unit⊕Bool):Prop:=match r with
 |.inl _=>∀j,i.toNat<=j->∀h:j<s.size,s[j]≠40
 |.inr v=>v=false
def NmP.step {s:ζ}{i:Int}(hi:0<=i)(hlt:i.toNat<s.size)(hc:s[i.toNat]≠40){r:Unit⊕Bool}(h:NmP s (i+1) r):NmP s i r:=by
 cases r with
 |inr v=>exact h
 |inl u=>
  intro j hj hs;rcases Nat.lt_or_ge i.toNat j with h1|h1
  .exact h j (by omega) hs
  .obtain rfl:i.toNat=j:=by omega
   exact hc
theorem afm {s:ζ}(hs:s.size<=65536):∀(k:Nat) (i:Int),0<=i->s.size-i<=k->DD (k+1) (NmP s i) λn=>oY n s (s.size:Int) i:=by
 intro k
 induction k with
 |zero=>
  intro i hi hk;refine DD.succ (m:=λn=>oz (oY n) n s (s.size:Int) i) (λ_=>rfl) ?_;unfold oz;exact DD.ite (λh1=>by simp only[aca] at h1;omega) λ_=>DD.pure λj hj hs=>by omega
 |succ k ih=>
  intro i hi hk;refine DD.succ (m:=λn=>oz (oY n) n s (s.size:Int) i) (λ_=>rfl) ?_;unfold oz;refine DD.ite (λh1=>?_) λh1=>DD.pure λj hj hs=>by simp only[aca] at h1;omega
  simp only[aca] at h1;have e:IntKind.i64.wrap (i+1)=i+1:=xQ (by omega) (by omega);have hlt:i.toNat<s.size:=by omega
  have ih':=ih (i+1) (by omega) (by omega);rw[<-e] at ih';have ih2:s[i.toNat]≠40->DD (k+1) (NmP s i) λn=>oY n s (s.size:Int) (IntKind.i64.wrap (i+1)):=λhc=>ih'.mono λr hr=>NmP.step hi hlt hc (e▸hr);refine DD.bind (P:=λc=>c=s[i.toNat]) ⟨s[i.toNat],rfl,λn h _ hw=>je.2 ⟨_,hi,getElem?_pos s i.toNat hlt,rfl,Fr.refl hw⟩⟩ λc hc=>?_;have hC:(c.toNat:Int)≠40->s[i.toNat]≠40:=λh q=>h (by rw[hc,q];rfl);clear ih ih' hc;generalize (c.toNat:Int)=C at hC⊢
  repeat' first|exact ih2 (hC (by grind))|exact DD.pure rfl|refine DD.ite (λ_=>?_) (λ_=>?_)
theorem N5 {s:ζ}(hs:s.size<=65536):DD 65538 (λb:Bool=>b=true->∀d∈s.data.toList,d≠40) λn=>Ac n s:=by
 unfold Ac;refine ((afm hs s.size 0 (by omega) (by omega)).le (by omega)).bind λy hy=>?_;cases y with
 |inl v=>
  have hall:∀d∈s.data.toList,d≠40:=λd hd=>by
   obtain⟨j,hj,rfl⟩:=List.getElem_of_mem hd;exact hy j (alg _) hj
  exact DD.ite (λ_=>DD.pure λ_=>hall) λ_=>DD.pure λ_=>hall
 |inr v=>exact DD.pure λh=>by rw[show v=false from hy] at h;cases h
theorem Vg {s:ζ}(hs:s.size<=65536):DD 10020 (λb:Bool=>b=true->MZ s) λn=>sh (oO n s) λx0=>if decide (x0.2=0) then AI (qk x0.1 s) else AI false:=
 (Tb (by omega)).bind λy hy=>DD.ite (λg=>DD.pure λe=>kS e▸hy (by simpa using g)) λ_=>DD.pure λh=>by cases h
def abv {s:ζ}(hs:s.size<=65536):DD 10020 (λb:Bool=>b=true->TX s) λn=>sh (rq n s) λx0=>AI !decide (x0=0):=
 (abl (by omega)).bind λy hy=>DD.pure λe=>hy (by simpa using e)
noncomputable def ahz (s:ζ):Bool:=if hs:s.size<=65536 then (N5 hs).choose else false
noncomputable def ahA (s:ζ):Bool:=if hs:s.size<=65536 then (Vg hs).choose else false
noncomputable def am6 (s:ζ):Bool:=if hs:s.size<=65536 then (abv hs).choose else false
noncomputable def Gg (k:Int)(t:ζ):Option Bool:=
 if k=0 then some (qk t (ofBytes []))
 else if k=1 then some (qk t (ofBytes [116,114,117,101])||qk t (ofBytes [102,97,108,115,101]))
 else if k=2 then some (nC t)
 else if k=5 then some (decide (Zs (wE t (t.size+1) 0)=0))
 else if k=6 then some true
 else if k=3 then some (Cr t)
 else if k=4 then some (abe t)
 else if k=7 then some (ahA t)
 else if k=8 then some (am6 t)
 else some false
noncomputable def rA (x:aq):Option Bool:=
 if x.kind=9 then some (qk x.text (ofBytes [])&&!x.ord&&decide (x.keys.length=0))
 else if x.kind=10 then some (qk x.text (ofBytes [])&&decide (x.keys.length=x.items.length))
 else if x.kind=11 then some (ahz x.text&&!x.ord&&decide (x.keys.length=0)&&decide (x.items.length=1))
 else if x.ord=false/\x.keys.length=0/\x.items.length=0 then Gg x.kind x.text else some false
def Tg (k:Int)(t:ζ):∃r,Gg k t=some r:=by
 unfold Gg
 repeat' split
 all_goals exact⟨_,rfl⟩
def Th (x:aq):∃r,rA x=some r:=by
 unfold rA
 repeat' split
 all_goals first|exact⟨_,rfl⟩|exact Tg _ _
def XX {k:Int}{t:ζ}{n:Nat}(z:Z h0 h L)(hs:t.size<=65536)(hn:65538<=n){r:Bool}(hr:Gg k t=some r):Wp (wJ n k t) h λx h'=>x=r/\Z h0 h' L:=by
 unfold wJ;unfold Gg at hr;by_cases h0:k=0
 .rw[By h0] at hr;cases hr;rw[By (by simpa using h0),ag];exact⟨rfl,z⟩
 rw[AT h0] at hr;rw[AT (by simpa using h0)];by_cases h1:k=1
 .rw[By h1] at hr;cases hr;rw[By (by simpa using h1)];cases he:qk t (ofBytes [116,114,117,101]) with
  |true=>rw[By rfl,ag];exact⟨rfl,z⟩
  |false=>rw[AT (by simp),ag];exact⟨rfl,z⟩
 rw[AT h1] at hr;rw[AT (by simpa using h1)];by_cases h2:k=2
 .rw[By h2] at hr;cases hr;rw[By (by simpa using h2),ah];refine (zy hs (by omega) z.wf).mono λx h' hx=>?_;rw[ag];exact⟨hx.1,z.pure hx.2⟩
 rw[AT h2] at hr;rw[AT (by simpa using h2)];by_cases h5:k=5
 .rw[By h5] at hr;cases hr;subst h5;rw[AT (by decide),AT (by decide),By (by decide)];unfold rD;rw[ah,ag,ag];exact⟨rfl,z⟩
 rw[AT h5] at hr;by_cases h6:k=6
 .rw[By h6] at hr;cases hr;subst h6;rw[AT (by decide),AT (by decide),AT (by decide),By (by decide),ag];exact⟨rfl,z⟩
 rw[AT h6] at hr;by_cases h3:k=3
 .rw[By h3] at hr;cases hr;rw[By (by simpa using h3),ah];refine (Hq hs (by omega) z.wf).mono λx h' hx=>?_;rw[ag];exact⟨hx.1,z.pure hx.2⟩
 rw[AT h3] at hr;rw[AT (by simpa using h3)];by_cases h4:k=4
 .rw[By h4] at hr;cases hr;rw[By (by simpa using h4),ah];refine (AR hs z.wf).mono λx h' hx=>?_;rw[ag];exact⟨hx.1,z.pure hx.2⟩
 rw[AT h4] at hr;rw[AT (by simpa using h4),AT (by simpa using h5),AT (by simpa using h6)];by_cases h7:k=7
 .rw[By h7] at hr;cases hr;rw[By (by simpa using h7)];unfold ahA;rw[dif_pos hs];exact ((Vg hs).choose_spec.2 n h (by omega) z.wf).mono λx h' hx=>⟨hx.1,z.pure hx.2⟩
 rw[AT h7] at hr;rw[AT (by simpa using h7)];by_cases h8:k=8
 .rw[By h8] at hr;cases hr;rw[By (by simpa using h8)];unfold am6;rw[dif_pos hs];exact ((abv hs).choose_spec.2 n h (by omega) z.wf).mono λx h' hx=>⟨hx.1,z.pure hx.2⟩
 rw[AT h8] at hr;cases hr;rw[AT (by simpa using h8),ag];exact⟨rfl,z⟩
theorem afn {x:aq}{ks is:Sl}{n:Nat}(z:Z h0 h L)(ik:IL h0 ks x.keys)(ii:IL h0 is x.items)(hs:x.text.size<=65536)(hn:65538<=n){r:Bool}(hr:rA x=some r) :
  Wp (Ap n (x.kind,x.text,x.ord,ks,is)) h λy h'=>y=r/\Z h0 h' L:=by
 unfold Ap;unfold rA at hr;refine z.new λb h1 z f1=>?_;refine z.ld 0 (o:=0) (l:=li) (x:=x.kind) ?_;by_cases h9:x.kind=9
 .rw[By h9] at hr;cases hr;rw[By (by simpa using h9)];refine z.ld 0 (o:=1) (l:=.str) (x:=x.text) ?_;cases he:qk x.text (ofBytes []) with
  |false=>rw[AT (by simp),ag];exact⟨by simp,z.drop⟩
  |true=>
   rw[By rfl];refine z.ld 0 (o:=2) (l:=.bool) (x:=x.ord) ?_;cases ho:x.ord with
   |true=>rw[AT (by simp),ag];exact⟨by simp,z.drop⟩
   |false=>
    rw[By (by simp)];refine z.ld 0 (o:=3) (l:=.sl) (x:=ks) ?_;rw[ag];exact⟨by simp[ik.len],z.drop⟩
 rw[AT h9] at hr;rw[AT (by simpa using h9)];by_cases h10:x.kind=10
 .rw[By h10] at hr;cases hr;rw[By (by simpa using h10)];refine z.ld 0 (o:=1) (l:=.str) (x:=x.text) ?_;cases he:qk x.text (ofBytes []) with
  |false=>rw[AT (by simp),ag];exact⟨by simp,z.drop⟩
  |true=>
   rw[By rfl];refine z.ld 0 (o:=3) (l:=.sl) (x:=ks) ?_;refine z.ld 0 (o:=4) (l:=.sl) (x:=is) ?_;rw[ag];refine⟨?_,z.drop⟩;rw[ik.len,ii.len];simp[Int.natCast_inj]
 rw[AT h10] at hr;rw[AT (by simpa using h10)];by_cases h11:x.kind=11
 .rw[By h11] at hr;cases hr;rw[By (by simpa using h11)];refine z.ld 0 (o:=1) (l:=.str) (x:=x.text) ?_;rw[ah];unfold ahz;rw[dif_pos hs];refine ((N5 hs).choose_spec.2 n _ hn z.wf).mono λy h' hy=>?_;obtain⟨rfl,f⟩:=hy;have z:=z.pure f;generalize (N5 hs).choose=y;cases y with
  |false=>rw[AT (by simp),ag];exact⟨by simp,z.drop⟩
  |true=>
   rw[By rfl];refine z.ld 0 (o:=2) (l:=.bool) (x:=x.ord) ?_;cases ho:x.ord with
   |true=>rw[AT (by simp),ag];exact⟨by simp,z.drop⟩
   |false=>
    rw[By (by simp)];refine z.ld 0 (o:=3) (l:=.sl) (x:=ks) ?_;by_cases hk:x.keys.length=0
    .rw[By (by simp[ik.len,hk])];refine z.ld 0 (o:=4) (l:=.sl) (x:=is) ?_;rw[ag];refine⟨?_,z.drop⟩;rw[ii.len]
     grind
    .rw[AT (by simp[ik.len];exact λe=>hk (by simp[e])),ag];refine⟨by simp[hk],z.drop⟩
 rw[AT h11] at hr;rw[AT (by simpa using h11)];refine z.ld 0 (o:=2) (l:=.bool) (x:=x.ord) ?_;cases ho:x.ord with
 |true=>
  rw[ho,AT (by simp)] at hr;cases hr;rw[AT (by simp),ag];exact⟨rfl,z.drop⟩
 |false=>
  rw[ho] at hr;rw[By (by simp)];refine z.ld 0 (o:=3) (l:=.sl) (x:=ks) ?_;by_cases hk:x.keys.length=0
  .rw[By (by simp[ik.len,hk])];refine z.ld 0 (o:=4) (l:=.sl) (x:=is) ?_;by_cases hi:x.items.length=0
   .rw[By (by simp[ii.len,hi])];rw[By ⟨rfl,hk,hi⟩] at hr;refine z.ld 0 (o:=0) (l:=li) (x:=x.kind) ?_;refine z.ld 0 (o:=1) (l:=.str) (x:=x.text) ?_;rw[ah];refine (XX z hs hn hr).mono λy h' hy=>?_;rw[ag];exact⟨hy.1,hy.2.drop⟩
   .rw[AT (by simp[ii.len];exact λe=>hi (by simp[e])),ag];rw[AT (λe=>hi e.2.2)] at hr;cases hr;exact⟨rfl,z.drop⟩
  .rw[AT (by simp[ik.len];exact λe=>hk (by simp[e])),ag];rw[AT (λe=>hk e.2.1)] at hr;cases hr;exact⟨rfl,z.drop⟩
end Go.Sh
