
import Derived.Test.YthnfbcloepfooaaGreatDoorAgoC
import Derived.IntWalk
set_option linter.all false
namespace Go.Ago
open Go
variable {P:Program}{W0:Fz}{ι ι':gy}{h h' h1:af}{w w':World}
theorem vJ (zc:δ)(n i:Nat)(hi:i<n*zc.length):(List.replicate n zc).flatten[i]?=zc[i%zc.length]?:=by
 induction n generalizing i with
 |zero=>simp at hi
 |succ n ih=>
  rw[abv,List.flatten_cons,abD];split
  .rename_i h;rw[Nat.mod_eq_of_lt h]
  grind [Nat.le_of_not_lt,Nat.succ_mul,Nat.mod_eq_sub_mod]
theorem uQ (z:ν)(n:Nat)(hz:0<z.size\/n=0):(Array.range (n*z.size)).map (λi=>z[i%z.size]!)=(List.replicate n z.toList).flatten.toArray:=by
 apply acp;intro i;by_cases hi:i<n*z.size
 .have hp:0<z.size:=by rcases hz with x|x;exact x;subst x;simp at hi
  have hm:i%z.size<z.size:=acU _ hp;have e2:((List.replicate n z.toList).flatten.toArray)[i]?=z[i%z.size]?:=by
   grind [vJ]
  rw[e2];simp[hi,hm]
 simp_all
theorem ML {h1':af}(R:Rel P W0 ι h w){t e:κ}{z:ξ}(ht:P.underlying t=some (.slice e))(hz:zeroOf P e=some z){i:TypeInfo}(hi:P.info? e=some i)(hb:i.bytes<=4096)
  {k k':IntKind} {l c:Int} {r:Sl} {nm:μ} (hx:pT nm e z.cells.toList l c h=some (r,h1')):eB P W0 ι w (Instr.makeSlice t (.int k l) (.int k' c)) (.slice r.a r.len r.cap) h1':=by
 obtain⟨hzf,hz1,hz2,i2,hi2,hz3,hz4⟩:=fO hz;rw[hi] at hi2;cases hi2;unfold pT at hx;split at hx
 .rename_i hc;split at hx
  .rename_i b h' hnb;cases hx;obtain⟨h1,h2,h3⟩:=hc;unfold cN at h3;have hput:∃next',h.used b=false/\(b<next'/\h.next<=next')/\h1'=h.bt b next' e (List.replicate c.toNat z.cells.toList).flatten:=by
    unfold aJ at hnb;split at hnb
    .cases nm with
     |none=>cases hnb;exact⟨h.next+1,R.unused,⟨by omega,by omega⟩,rfl⟩
     |some k=>
      grind
    .cases hnb
   obtain⟨next',hu,hn,rfl⟩:=hput
   obtain⟨l,rfl⟩:=aaN h1;obtain⟨c,rfl⟩:=aaN (abS h1 h2);have hw:∀n:Int,0<=n->n<=1073741824->IntKind.i64.wrap n=n:=λn ha hb=>IntWalk.i64_in n ⟨by omega,by omega⟩;have hlc:(l:Int)<=1073741824:=by omega
   have hbc:(i.bytes:Int)*(c:Int)<=4398046511104:=by
    have:i.bytes*c<=4398046511104:=aaX (Nat.mul_le_mul hb (show c<=1073741824 by omega)) (by omega)
    grind
   obtain⟨ι',hle,hnew,R'⟩:=R.put b next' hu hn e (List.replicate c z.cells.toList).flatten (List.replicate c z.cells.toList).flatten [] (0,0) (by intro o _;simp)
    (bN.flat (by grind))
    (λv hv=>by grind [List.mem_flatten,tE,List.all_eq_true])
   refine⟨.slice (some ⟨w.heap.size,0,none⟩) l c,{ w with heap:=w.heap.push (.cells (List.replicate c z.cells.toList).flatten.toArray e) },ι',?_,?_,?_,hle⟩
   .have n1:¬((c:Int)<0):=(by omega);have n2:¬(281474976710656<(i.bytes:Int)*(c:Int)):=(by omega);have n3:¬((l:Int)<0):=(by omega);have n4:¬((c:Int)<(l:Int)):=(by omega);have n5:l<=c:=(by omega);have w1:=hw l (by omega) hlc;have w2:=hw c (by omega) h3;have hn1:(c:Int).toNat*z.cells.size=c*z.cells.size:=(by simp);simp only[Instr.makeSlice,Sem.run_bind,aL ht,Result.andThen_ok,asInt,asIntOf,Sem.run_pure,typeInfo,run_program,hi,w1,w2,n1,n3,n4,Sem.run_ite,decide_false,decide_true,abX,abL,
     show ((2:Int)^48)=281474976710656 from rfl,gt_iff_lt,n2,aar,aag,run_askRoom,iv hz2,hn1,newRow,run_newObj,aac]
    by_cases h0:c*z.cells.size=0
    .have e0:(List.replicate c z.cells.toList).flatten=[]:=aap (by simpa using h0);rw[BY h0,h0,e0,Array.range_zero'];simp
    .rw[By h0];simp only[hz1,Result.andThen_ok];rw[uQ z.cells c (by grind)]
   .refine .slice _ _ _ _ _ _ rfl rfl hnew rfl rfl (by simp only;omega) (.inr (by simp)) (λ_ _=>?_);simp[ET hz2]
   .rw[aaF] at R';exact R'
  .cases hx
 .cases hx
theorem JB (R:Rel P W0 ι h w){t e:κ}(ht:P.underlying t=some (.slice e)){z:Nat}(hz:bP P e=some z){s:Sl}{s':ξ}(hr:bg P ι (.slice s.a s.len s.cap) s')
  {k:IntKind} {j:Int} {r:Addr} (hx:ao s j z h=some (r,h1)):eB P W0 ι w (Instr.indexAt t s' (.int k j)) (.pointer (some r)) h1:=by
 obtain⟨sa,sn,sc⟩:=s;unfold ao at hx;cases sa with
 |none=>simp at hx
 |some a=>
  simp only at hx;split at hx
  .rename_i hc;cases hx;simp only at hc hr;cases hr with
   |flat _ hf=>simp[cV] at hf
   |jl=>simp at hc;omega
   |slice _ a' _ _ c' l f1 f2 f3 f4 f5 f6 f7 f8=>
    refine .ret (v':=.pointer (some (a'.add (j.toNat*z)))) ?_ (.ptr _ _ (mH.plus ⟨f1,f2,l,f3,f4,f5⟩ _)) R;simp[Instr.indexAt,asIntOf,aL ht,hc,iv hz]
  .cases hx
theorem EX (R:Rel P W0 ι h w){t e:κ}{n:Nat}(ht:P.underlying t=some (.array n e)){z:Nat}(hz:bP P e=some z){a a':Addr}(ha:mH ι a a')
  {k:IntKind} {j:Int} (hj:0<=j/\j<(n:Int)):eB P W0 ι w (Instr.indexAt t (.pointer (some a')) (.int k j)) (.pointer (some (a.plus (j.toNat*z)))) h:=by
 refine .ret (v':=.pointer (some (a'.add (j.toNat*z)))) ?_ (.ptr _ _ (mH.plus ha _)) R;simp[Instr.indexAt,Instr.sureAddr,asIntOf,aL ht,hj,iv hz]
theorem JC (R:Rel P W0 ι h w){t:κ}(ht:P.underlying t=some .string){s:ζ}{k:IntKind}{j:Int}{b:UInt8}(hx:nO s j h=some (b,h1)) :
  eB P W0 ι w (Instr.index t (.string s) (.int k j)) (.int .u8 b.toNat) h1:=by
 unfold nO at hx;split at hx
 .rename_i b' hb;cases hx;exact .ret (by simp[Instr.index,asIntOf,aL ht,hb]) .ofInt R
 .cases hx
theorem qZ (R:Rel P W0 ι h w){t:κ}(ht:P.underlying t=some .string){s r:ζ}{lo hi:Option ξ}{l u:Int}(hl:(∃k,lo=some (.int k l))\/(lo=none/\l=0))
  (hu:(∃k,hi=some (.int k u))\/(hi=none/\u=s.size)) (hx:ji s l u h=some (r,h1)):eB P W0 ι w (Instr.sliceAt t (.string s) lo hi none) (.string r) h1:=by
 unfold ji at hx;rw[Ju] at hx;split at hx
 .rename_i hc;cases hx;obtain⟨h1,h2,h3⟩:=hc;refine .ret (v':=.string (s.extract l.toNat u.toNat)) ?_ .ofStr R;rcases hl with⟨k,rfl⟩|⟨rfl,rfl⟩<;>rcases hu with⟨k',rfl⟩|⟨rfl,rfl⟩ <;>
   simp[Instr.sliceAt,Instr.slice,aL ht,Instr.sliceBounds,Instr.sliceBound,asIntOf,h1,h2,h3,abS h1 h2]
  all_goals (try (intro hh;exact absurd hh (by omega)))
 .cases hx
theorem HH (R:Rel P W0 ι h w){a:Addr}{e:κ}{n c:Nat}{l:Loc}(hl:ι a.block=some l)(he:gx h ⟨some a,n,c⟩ e=true):l.ro=false->l.elem=e:=by
 simp only[gx] at he;split at he
 .rename_i c g base e' hb;obtain⟨l0,e1,e2,e3,_⟩:=R.live _ c g base e' hb;rw[hl] at e1;cases e1;intro hro
  simp_all
 .cases he
theorem Ch {lo hi:Option ξ}{l u:Int}{n c:Nat}(hl:(∃k,lo=some (.int k l))\/(lo=none/\l=0))(hu:(∃k,hi=some (.int k u))\/(hi=none/\u=n))
  (h1:0<=l) (h2:l<=u) (h3:u<=n) (hc:n<=c):(Instr.sliceBounds true n c lo hi none).run P w=.ok (l.toNat,u.toNat,c) w:=by
 have h4:u<=(c:Int):=by omega
 have h5:0<=u:=by omega
 rcases hl with⟨k,rfl⟩|⟨rfl,rfl⟩<;>rcases hu with⟨k',rfl⟩|⟨rfl,rfl⟩ <;>
  simp[Instr.sliceBounds,Instr.sliceBound,asIntOf,h1,h2,h3,h4,h5]
 all_goals (try (intro hh;exact absurd hh (by omega)))
theorem ra (R:Rel P W0 ι h w){t e:κ}(ht:P.underlying t=some (.slice e)){z:Nat}(hz:bP P e=some z){s:Sl}{s':ξ}(hr:bg P ι (.slice s.a s.len s.cap) s')
  {lo hi:Option ξ} {l u:Int} (hl:(∃k,lo=some (.int k l))\/(lo=none/\l=0)) (hu:(∃k,hi=some (.int k u))\/(hi=none/\u=s.len))
  {r:Sl} (hx:gf s l u e z h=some (r,h1)):eB P W0 ι w (Instr.sliceAt t s' lo hi none) (.slice r.a r.len r.cap) h1:=by
 obtain⟨sa,sn,sc⟩:=s;simp only at hr hu;unfold gf at hx;split at hx
 .rename_i hc;cases hx;obtain⟨h1,h2,h3,h4⟩:=hc;simp only at h3;cases sa with
  |none=>
   simp only[gx,aaf] at h4;obtain rfl:=IS h4.1;obtain rfl:=IS h4.2;cases hr;have hl0:l=0:=by simp at h3;omega
   have hu0:u=0:=by simp at h3;omega
   subst hl0;subst hu0;have hb:=Ch (P:=P) (w:=w) (n:=0) (c:=0) hl hu (by omega) (by omega) (by simp) (by omega);refine .ret (v':=.slice none 0 0) ?_ (.flat _ rfl) R;simp[Instr.sliceAt,Instr.slice,aL ht,hb,iv hz]
  |some a=>
   cases hr with
   |flat _ hf=>simp[cV] at hf
   |jl _ a' _ hce=>
    have hl0:l=0:=(by simp at h3;omega);have hu0:u=0:=(by simp at h3;omega);subst hl0;subst hu0;have hb:=Ch (P:=P) (w:=w) (n:=0) (c:=0) hl hu (by omega) (by omega) (by simp) (by omega);refine .ret (v':=.slice (some a') 0 0) ?_ ?_ R
    .simp[Instr.sliceAt,Instr.slice,aL ht,hb,iv hz]
    .refine .jl _ _ _ ?_;rcases hce with rfl|rfl<;>simp
   |slice _ a' _ _ c' lc f1 f2 f3 f4 f5 f6 f7 f8=>
    have hb:=Ch (P:=P) (w:=w) (n:=sn) (c:=c') hl hu h1 h2 h3 f6;obtain⟨l,rfl⟩:=aaN h1;obtain⟨u,rfl⟩:=aaN (abS h1 h2);have h2':l<=u:=(by omega);have h3':u<=sn:=(by simpa using h3);simp only[aac] at hb;by_cases hcl:c'=l
    ·-- nothing is left
     have hul:u=l:=(by omega);subst hul;subst hcl;refine .ret (v':=.slice (some a') 0 0) ?_ ?_ R
     .simp[Instr.sliceAt,Instr.slice,aL ht,hb,iv hz]
     .simp only[aby,aac,abI];refine .jl _ _ _ ?_
      grind
    .refine .ret (v':=.slice (some (a'.add (l*z))) (u-l) (c' - l)) ?_ ?_ R
     .simp[Instr.sliceAt,Instr.slice,aL ht,hb,iv hz,hcl]
     .simp only[aby,aac];have ha:=mH.plus ⟨f1,f2,lc,f3,f4,f5⟩ (l*z);obtain⟨g1,g2,l2,g3,g4,g5⟩:=ha;have hsame:(a.plus (l*z)).block=a.block:=rfl;rw[hsame,f3] at g3;cases g3;refine .slice _ _ _ _ _ lc g1 g2 f3 g4 g5 (by omega) ?_ (λhro hz0=>?_)
      .grind
      .have hwf:=f8 hro (by rcases f7 with rfl|rfl<;>simp at hz0<;>omega);have hel:=HH R f3 h4 hro;rw[hel,ET hz] at hwf⊢;have e1:(a'.add (l*z)).off=a'.off+l*z:=(by rw[add_eq f2]);rw[e1,abW,<-abf]
       rwa [show l+(c' - l)=c' by omega]
 .cases hx
theorem SU {lo hi:Option ξ}{l u:Int}{n:Nat}(hl:(∃k,lo=some (.int k l))\/(lo=none/\l=0))(hu:(∃k,hi=some (.int k u))\/(hi=none/\u=n))
  (h1:0<=l) (h2:l<=u) (h3:u<=n):(Instr.sliceBounds false n n lo hi none).run P w=.ok (l.toNat,u.toNat,n) w:=by
 have h5:0<=u:=by omega
 rcases hl with⟨k,rfl⟩|⟨rfl,rfl⟩<;>rcases hu with⟨k',rfl⟩|⟨rfl,rfl⟩ <;>
  simp[Instr.sliceBounds,Instr.sliceBound,asIntOf,h1,h2,h3,h5]
 all_goals (try (intro hh;exact absurd hh (by omega)))
theorem rb (R:Rel P W0 ι h w){t e:κ}{n:Nat}(ht:P.underlying t=some (.array n e)){z:Nat}(hz:bP P e=some z){a:Addr}{s':ξ}(hr:bg P ι (.pointer (some a)) s')
  {lo hi:Option ξ} {l u:Int} (hl:(∃k,lo=some (.int k l))\/(lo=none/\l=0)) (hu:(∃k,hi=some (.int k u))\/(hi=none/\u=n))
  {r:Sl} (hx:tC a n l u z h=some (r,h1)):eB P W0 ι w (Instr.sliceAt t s' lo hi none) (.slice r.a r.len r.cap) h1:=by
 unfold tC at hx;split at hx
 .rename_i hc;cases hx;obtain⟨h1,h2,h3⟩:=hc;cases hr with
  |flat _ hf=>simp[cV] at hf
  |ptr _ a' ha=>
   have hb:=SU (P:=P) (w:=w) hl hu h1 h2 h3;obtain⟨l,rfl⟩:=aaN h1;obtain⟨u,rfl⟩:=aaN (abS h1 h2);simp only[aac] at hb⊢;by_cases hnl:n=l
   .subst hnl;have hul:u=n:=(by omega);subst hul;refine .ret (v':=.slice (some a') 0 0) ?_ ?_ R
    .simp[Instr.sliceAt,Instr.sureAddr,aL ht,hb,iv hz]
    .rw[show u-u=0 by omega];exact .jl _ _ _ (.inr (by omega))
   .refine .ret (v':=.slice (some (a'.add (l*z))) (u-l) (n-l)) ?_ ?_ R
    .simp[Instr.sliceAt,Instr.sureAddr,aL ht,hb,iv hz,hnl]
    .obtain⟨g1,g2,l2,g3,g4,g5⟩:=mH.plus ha (l*z);exact .slice _ _ _ _ _ l2 g1 g2 g3 g4 g5 (by omega) (.inr rfl) (λ_ hz0=>absurd hz0 (by omega))
 .cases hx
theorem Ef {lo:Option ξ}{l u m:Int}{k k':IntKind}{n c:Nat}(hl:(∃k,lo=some (.int k l))\/(lo=none/\l=0))
  (h1:0<=l) (h2:l<=u) (h3:u<=m) (h4:m<=n) (hc:n<=c):(Instr.sliceBounds true n c lo (some (.int k u)) (some (.int k' m))).run P w=.ok (l.toNat,u.toNat,m.toNat) w:=by
 have h5:m<=(c:Int):=by omega
 have h6:0<=u:=by omega
 have h7:0<=m:=by omega
 rcases hl with⟨k,rfl⟩|⟨rfl,rfl⟩ <;>
  simp[Instr.sliceBounds,Instr.sliceBound,asIntOf,h1,h2,h3,h4,h5,h6,h7]
 all_goals (try (intro hh;exact absurd hh (by omega)))
 all_goals rw[BY (by omega),BY (by omega)]
theorem xP (R:Rel P W0 ι h w){t e:κ}(ht:P.underlying t=some (.slice e)){z:Nat}(hz:bP P e=some z){s:Sl}{s':ξ}(hr:bg P ι (.slice s.a s.len s.cap) s')
  {lo:Option ξ} {l u m:Int} {k k':IntKind} (hl:(∃k,lo=some (.int k l))\/(lo=none/\l=0))
  {r:Sl} (hx:sL s l u m e z h=some (r,h1)):eB P W0 ι w (Instr.sliceAt t s' lo (some (.int k u)) (some (.int k' m))) (.slice r.a r.len r.cap) h1:=by
 obtain⟨sa,sn,sc⟩:=s;simp only at hr;unfold sL at hx;split at hx
 .rename_i hc;cases hx;obtain⟨h1,h2,h3,h4,h5,h6⟩:=hc;simp only at h4;cases sa with
  |none=>simp at h5
  |some a=>
   cases hr with
   |flat _ hf=>simp[cV] at hf
   |jl _ a' _ hce=>
    have hl0:l=0:=(by simp at h4;omega);have hu0:u=0:=(by simp at h4;omega);have hm0:m=0:=(by simp at h4;omega);subst hl0;subst hu0;subst hm0;have hb:=Ef (P:=P) (w:=w) (n:=0) (c:=0) (k:=k) (k':=k') hl (by omega) (by omega) (by omega) (by simp) (by omega);refine .ret (v':=.slice (some a') 0 0) ?_ ?_ R
    .simp[Instr.sliceAt,Instr.slice,aL ht,hb,iv hz]
    .exact .jl _ _ _ (by simp)
   |slice _ a' _ _ c' lc f1 f2 f3 f4 f5 f6 f7 f8=>
    have hb:=Ef (P:=P) (w:=w) (n:=sn) (c:=c') (k:=k) (k':=k') hl h1 h2 h3 h4 f6;obtain⟨l,rfl⟩:=aaN h1;obtain⟨u,rfl⟩:=aaN (abS h1 h2);obtain⟨m,rfl⟩:=aaN (abS (abS h1 h2) h3);have h2':l<=u:=(by omega);have h3':u<=m:=(by omega);have h4':m<=sn:=(by simpa using h4);simp only[aac] at hb;by_cases hcl:m=l
    .have hul:u=l:=(by omega);subst hul;subst hcl;refine .ret (v':=.slice (some a') 0 0) ?_ ?_ R
     .simp[Instr.sliceAt,Instr.slice,aL ht,hb,iv hz]
     .simp only[aby,aac,abI];exact .jl _ _ _ (by simp)
    .refine .ret (v':=.slice (some (a'.add (l*z))) (u-l) (m-l)) ?_ ?_ R
     .simp[Instr.sliceAt,Instr.slice,aL ht,hb,iv hz,hcl]
     .simp only[aby,aac];obtain⟨g1,g2,l2,g3,g4,g5⟩:=mH.plus ⟨f1,f2,lc,f3,f4,f5⟩ (l*z);have hsame:(a.plus (l*z)).block=a.block:=rfl;rw[hsame,f3] at g3;cases g3;refine .slice _ _ _ _ _ lc g1 g2 f3 g4 g5 (by omega) (.inr rfl) (λhro hz0=>?_);simp at hz0
 .cases hx
theorem Ci (f:ξ->ζ->Sem (ForInStep ζ))(hf:∀n s,f (.int .u8 n) s=Pure.pure (.yield (s.push (UInt8.ofNat n.toNat)))) :
  ∀(cs:δ) (bs:List UInt8) (s:ζ) (w:World),bytesOf cs=some bs->(forIn cs s f).run P w=.ok ⟨s.data++bs.toArray⟩ w
 |[],bs,s,w,hb=>by simp[bytesOf] at hb;subst hb;simp
 |c::cs,bs,s,w,hb=>by
  unfold bytesOf at hb;split at hb
  .rename_i heq;cases heq
  .rename_i n r heq;cases heq;split at hb
   .rename_i l hl;cases hb;have ih:=Ci f hf cs l (s.push (UInt8.ofNat n.toNat)) w hl
    simp_all
   .cases hb
  .cases hb
theorem bg.bytes {cs cs':δ}(hl:bN P ι cs cs'):∀{bs:List UInt8},bytesOf cs=some bs->cs'=cs:=by
 induction cs generalizing cs' with
 |nil=>intro bs _;have:=hl.1;exact aap this.symm
 |cons v l ih=>
  intro bs hb;obtain⟨v',m,rfl,hv,hm⟩:=hl.cons_inv;unfold bytesOf at hb;split at hb
  .rename_i heq;cases heq
  .rename_i n r heq;cases heq
   grind [hv.int]
  .cases hb
theorem HI (R:Rel P W0 ι h w){a:θ}{n c:Nat}{s':ξ}(hr:bg P ι (.slice a n c) s'){s:ζ}(hx:strOf ⟨a,n,c⟩ h=some (s,h1)) :
  eB P W0 ι w (Conv.bytesToString s') (.string s) h1:=by
 unfold strOf at hx;split at hx
 .rename_i cs hcs;split at hx
  .rename_i l hl;cases hx;cases hr with
   |flat _ hf=>
    cases a with
    |some a=>simp[cV] at hf
    |none=>
     simp[bj] at hcs;obtain⟨_,rfl⟩:=hcs;simp[bytesOf] at hl;subst hl;exact .ret (by simp[Conv.bytesToString];rfl) .ofStr R
   |jl a a' c hce=>
    have:cs=[]:=by
     grind [bj]
    subst this;simp[bytesOf] at hl;subst hl;refine .ret (v':=.string .empty) ?_ .ofStr R;simp[Conv.bytesToString,loadCells,loadCellsFrom]
   |slice a a' n c c' lc f1 f2 f3 f4 f5 f6 f7 f8=>
    obtain⟨cs',q1,q2,q3,q4,q5⟩:=pW R ⟨f1,f2,lc,f3,f4,f5⟩ hcs;obtain rfl:=bg.bytes q1 hl;refine .ret (v':=.string (ofBytes l)) ?_ .ofStr R;simp only[Conv.bytesToString,Sem.run_bind,q4,Result.andThen_ok];rw[List.forIn_toArray,Ci _ (λ_ _=>rfl) cs' l .empty w hl];simp[ofBytes]
  .cases hx
 .cases hx
end Go.Ago
