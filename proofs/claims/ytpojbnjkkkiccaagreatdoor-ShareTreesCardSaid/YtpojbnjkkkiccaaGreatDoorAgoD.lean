
import Derived.Test.YtpojbnjkkkiccaaGreatDoorAgoC
import Derived.IntWalk
set_option linter.all false
namespace Go.Ago
open Go
variable {P:Program}{W0:Fz}{ι ι':gO}{h h' h1:ai}{w w':World}
theorem AZ (zc:δ) n i (hi:i<n*zc.length):(List.replicate n zc).flatten[i]?=zc[i%zc.length]?:=by
 induction n generalizing i with
 |zero=>simp at hi
 |succ n ih=>
  rw[amV,apu,apV];split
  .grind [Nat.mod_eq_of_lt]
  grind [Nat.le_of_not_lt,Nat.succ_mul,Nat.mod_eq_sub_mod]
theorem zO (z:ν) n (hz:0<z.size\/n=0):(Array.range (n*z.size)).map (λi=>z[i%z.size]!)=(List.replicate n z.toList).flatten.toArray:=by
 apply apq;intro i;by_cases hi:i<n*z.size
 .grind [Nat.mod_lt,AZ]
 simp_all
theorem VT {h1'}(R:Rel P W0 ι h w){t e}{z}(ht:P.underlying t=some (.slice e))(hz:zeroOf P e=some z){i}(hi:P.info? e=some i)(hb:i.bytes<=4096)
  {k k'} {l c} {r} {nm} (hx:w9 nm e z.cells.toList l c h=some (r,h1')):gF P W0 ι w (Instr.makeSlice t (.int k l) (.int k' c)) (.slice r.a r.len r.cap) h1':=by
 obtain⟨hzf,hz1,hz2,i2,hi2,hz3,hz4⟩:=fE hz;rw[hi] at hi2;cases hi2;unfold w9 at hx;split at hx
 .rename_i hc;split at hx
  .rename_i b h' hnb;cases hx;obtain⟨h1,h2,h3⟩:=hc;unfold da at h3;have hput:∃next',h.used b=false/\(b<next'/\h.next<=next')/\h1'=h.cM b next' e (List.replicate c.toNat z.cells.toList).flatten:=by
    unfold iI at hnb;split at hnb
    .cases nm with
     |none=>cases hnb;exact⟨h.next+1,R.unused,⟨by omega,by omega⟩,rfl⟩
     |some k=>
      grind
    .cases hnb
   obtain⟨next',hu,hn,rfl⟩:=hput
   obtain⟨l,rfl⟩:=amu h1;obtain⟨c,rfl⟩:=amu (an0 h1 h2);have hw:∀n:Int,0<=n->n<=1073741824->IntKind.i64.wrap n=n:=λn ha hb=>IntWalk.i64_in n ⟨by omega,by omega⟩;have hlc:(l:Int)<=1073741824:=by omega
   have hbc:(i.bytes:Int)*(c:Int)<=4398046511104:=by
    have:i.bytes*c<=4398046511104:=acY (aor hb (show c<=1073741824 by omega)) (by omega)
    grind
   obtain⟨ι',hle,hnew,R'⟩:=R.put b next' hu hn e (List.replicate c z.cells.toList).flatten (List.replicate c z.cells.toList).flatten [] (0,0) (by intro o _;simp)
    (aW.flat (by grind))
    (λv hv=>by grind [List.mem_flatten,vg,List.all_eq_true])
   refine⟨.slice (some ⟨w.heap.size,0,none⟩) l c,{ w with heap:=w.heap.push (.cells (List.replicate c z.cells.toList).flatten.toArray e) },ι',?_,?_,?_,hle⟩
   .have n1:¬((c:Int)<0):=(by omega);have n2:¬(281474976710656<(i.bytes:Int)*(c:Int)):=(by omega);have n3:¬((l:Int)<0):=(by omega);have n4:¬((c:Int)<(l:Int)):=(by omega);have n5:l<=c:=(by omega);have w1:=hw l (by omega) hlc;have w2:=hw c (by omega) h3;have hn1:(c:Int).toNat*z.cells.size=c*z.cells.size:=(by simp);simp only[Instr.makeSlice,Sem.run_bind,aI ht,Result.andThen_ok,asInt,asIntOf,Sem.run_pure,typeInfo,run_program,hi,w1,w2,n1,n3,n4,Sem.run_ite,decide_false,decide_true,Bool.false_or,ap3,
     show ((2:Int)^48)=281474976710656 from rfl,gt_iff_lt,n2,afM,aft,run_askRoom,lQ hz2,hn1,newRow,run_newObj,aba]
    by_cases h0:c*z.cells.size=0
    .have e0:(List.replicate c z.cells.toList).flatten=[]:=ac4 (by simpa using h0)
     grind
    .rw[AT h0];simp only[hz1,Result.andThen_ok]
     grind [zO]
   .refine .slice _ _ _ _ _ _ rfl rfl hnew rfl rfl (by simp only;omega) (.inr (by simp)) (λ_ _=>?_);simp[M6 hz2]
   grind
  .cases hx
 .cases hx
def Rh (R:Rel P W0 ι h w){t e}(ht:P.underlying t=some (.slice e)){z}(hz:bU P e=some z){s}{s'}(hr:aN P ι (.slice s.a s.len s.cap) s')
  {k} {j} {r} (hx:mz s j z h=some (r,h1)):gF P W0 ι w (Instr.indexAt t s' (.int k j)) (.pointer (some r)) h1:=by
 obtain⟨sa,sn,sc⟩:=s;unfold mz at hx;cases sa with
 |none=>simp at hx
 |some a=>
  simp only at hx;split at hx
  .rename_i hc;cases hx;simp at hc hr;cases hr with
   |flat _ hf=>simp[dO] at hf
   |lP=>simp at hc;omega
   |slice _ a' _ _ c' l f1 f2 f3 f4 f5 f6 f7 f8=>
    refine .ret ?_ (.ptr _ _ (rO.plus ⟨f1,f2,l,f3,f4,f5⟩ _)) R;simp[Instr.indexAt,asIntOf,aI ht,hc,lQ hz]
  .cases hx
def Nc (R:Rel P W0 ι h w){t e}{n}(ht:P.underlying t=some (.array n e)){z}(hz:bU P e=some z){a a'}(ha:rO ι a a')
  {k} {j} (hj:0<=j/\j<(n:Int)):gF P W0 ι w (Instr.indexAt t (.pointer (some a')) (.int k j)) (.pointer (some (a.plus (j.toNat*z)))) h:=by
 refine .ret ?_ (.ptr _ _ (rO.plus ha _)) R;simp[Instr.indexAt,Instr.sureAddr,asIntOf,aI ht,hj,lQ hz]
def Ri (R:Rel P W0 ι h w){t}(ht:P.underlying t=some .string){s}{k}{j}{b}(hx:lj s j h=some (b,h1)) :
  gF P W0 ι w (Instr.index t (.string s) (.int k j)) (.int .u8 b.toNat) h1:=by
 unfold lj at hx;split at hx
 .rename_i b' hb;cases hx;exact .ret (by simp[Instr.index,asIntOf,aI ht,hb]) .ofInt R
 .cases hx
theorem wz (R:Rel P W0 ι h w){t}(ht:P.underlying t=some .string){s r}{lo hi:Option ξ}{l u}(hl:(∃k,lo=some (.int k l))\/(lo=none/\l=0))
  (hu:(∃k,hi=some (.int k u))\/(hi=none/\u=s.size)) (hx:im s l u h=some (r,h1)):gF P W0 ι w (Instr.sliceAt t (.string s) lo hi none) (.string r) h1:=by
 unfold im at hx;rw[D9] at hx;split at hx
 .rename_i hc;cases hx;obtain⟨h1,h2,h3⟩:=hc;refine .ret ?_ .ofStr R;rcases hl with⟨k,rfl⟩|⟨rfl,rfl⟩<;>rcases hu with⟨k',rfl⟩|⟨rfl,rfl⟩ <;>
   simp[Instr.sliceAt,Instr.slice,aI ht,Instr.sliceBounds,Instr.sliceBound,asIntOf,h1,h2,h3,an0 h1 h2]
  grind
 .cases hx
def O6 (R:Rel P W0 ι h w){a}{e}{n c}{l}(hl:ι a.block=some l)(he:lO h ⟨some a,n,c⟩ e=true):l.ro=false->l.elem=e:=by
 simp[lO] at he;split at he
 .rename_i c g base e' hb;obtain⟨l0,e1,e2,e3,_⟩:=R.live _ c g base e' hb;rw[hl] at e1;cases e1;intro hro
  simp_all
 .cases he
theorem Jr {lo hi:Option ξ}{l u}{n c:Nat}(hl:(∃k,lo=some (.int k l))\/(lo=none/\l=0))(hu:(∃k,hi=some (.int k u))\/(hi=none/\u=n))
  (h1:0<=l) (h2:l<=u) (h3:u<=n) (hc:n<=c):(Instr.sliceBounds true n c lo hi none).run P w=.ok (l.toNat,u.toNat,c) w:=by
 have h4:u<=(c:Int):=by omega
 have h5:0<=u:=by omega
 rcases hl with⟨k,rfl⟩|⟨rfl,rfl⟩<;>rcases hu with⟨k',rfl⟩|⟨rfl,rfl⟩ <;>
  simp[Instr.sliceBounds,Instr.sliceBound,asIntOf,h1,h2,h3,h4,h5]
 grind
theorem wA (R:Rel P W0 ι h w){t e}(ht:P.underlying t=some (.slice e)){z}(hz:bU P e=some z){s}{s'}(hr:aN P ι (.slice s.a s.len s.cap) s')
  {lo hi:Option ξ} {l u} (hl:(∃k,lo=some (.int k l))\/(lo=none/\l=0)) (hu:(∃k,hi=some (.int k u))\/(hi=none/\u=s.len))
  {r} (hx:iM s l u e z h=some (r,h1)):gF P W0 ι w (Instr.sliceAt t s' lo hi none) (.slice r.a r.len r.cap) h1:=by
 obtain⟨sa,sn,sc⟩:=s;simp at hr hu;unfold iM at hx;split at hx
 .rename_i hc;cases hx;obtain⟨h1,h2,h3,h4⟩:=hc;simp at h3;cases sa with
  |none=>
   simp only[lO,abw] at h4;obtain rfl:=IT h4.1;obtain rfl:=IT h4.2;cases hr;have hl0:l=0:=by simp at h3;omega
   have hu0:u=0:=by simp at h3;omega
   subst hl0;subst hu0;have hb:=Jr (P:=P) (w:=w) (n:=0) (c:=0) hl hu (by omega) (by omega) (by simp) (by omega);refine .ret (v':=.slice none 0 0) ?_ (.flat _ rfl) R;simp[Instr.sliceAt,Instr.slice,aI ht,hb,lQ hz]
  |some a=>
   cases hr with
   |flat _ hf=>simp[dO] at hf
   |lP _ a' _ hce=>
    have hl0:l=0:=(by simp at h3;omega);have hu0:u=0:=(by simp at h3;omega);subst hl0;subst hu0;have hb:=Jr (P:=P) (w:=w) (c:=0) hl hu (by omega) (by omega) (by simp) (by omega);refine .ret (v':=.slice (some a') 0 0) ?_ ?_ R
    .simp[Instr.sliceAt,Instr.slice,aI ht,hb,lQ hz]
    .refine .lP _ _ _ ?_
     grind
   |slice _ a' _ _ c' lc f1 f2 f3 f4 f5 f6 f7 f8=>
    have hb:=Jr (P:=P) (w:=w) hl hu h1 h2 h3 f6;obtain⟨l,rfl⟩:=amu h1;obtain⟨u,rfl⟩:=amu (an0 h1 h2);have h2':l<=u:=(by omega);have h3':u<=sn:=(by simpa using h3);simp at hb;by_cases hcl:c'=l
    ·-- nothing is left
     have hul:u=l:=(by omega);subst hul;subst hcl;refine .ret (v':=.slice (some a') 0 0) ?_ ?_ R
     .simp[Instr.sliceAt,Instr.slice,aI ht,hb,lQ hz]
     .simp;refine .lP _ _ _ ?_
      grind
    .refine .ret (v':=.slice (some (a'.add (l*z))) (u-l) (c' - l)) ?_ ?_ R
     .simp[Instr.sliceAt,Instr.slice,aI ht,hb,lQ hz,hcl]
     .simp;have ha:=rO.plus ⟨f1,f2,lc,f3,f4,f5⟩ (l*z);obtain⟨g1,g2,l2,g3,g4,g5⟩:=ha;have hsame:(a.plus (l*z)).block=a.block:=rfl;rw[hsame,f3] at g3;cases g3;refine .slice _ _ _ _ _ lc g1 g2 f3 g4 g5 (by omega) ?_ (λhro hz0=>?_)
      .grind
      .have hwf:=f8 hro (by grind);have hel:=O6 R f3 h4 hro;rw[hel,M6 hz] at hwf⊢;have e1:(a'.add (l*z)).off=a'.off+l*z:=(by rw[add_eq f2]);rw[e1,aod,<-ale]
       grind
 .cases hx
theorem adg {lo hi:Option ξ}{l u}{n:Nat}(hl:(∃k,lo=some (.int k l))\/(lo=none/\l=0))(hu:(∃k,hi=some (.int k u))\/(hi=none/\u=n))
  (h1:0<=l) (h2:l<=u) (h3:u<=n):(Instr.sliceBounds false n n lo hi none).run P w=.ok (l.toNat,u.toNat,n) w:=by
 have h5:0<=u:=by omega
 rcases hl with⟨k,rfl⟩|⟨rfl,rfl⟩<;>rcases hu with⟨k',rfl⟩|⟨rfl,rfl⟩ <;>
  simp[Instr.sliceBounds,Instr.sliceBound,asIntOf,h1,h2,h3,h5]
 grind
def wB (R:Rel P W0 ι h w){t e}{n}(ht:P.underlying t=some (.array n e)){z}(hz:bU P e=some z){a}{s'}(hr:aN P ι (.pointer (some a)) s')
  {lo hi:Option ξ} {l u} (hl:(∃k,lo=some (.int k l))\/(lo=none/\l=0)) (hu:(∃k,hi=some (.int k u))\/(hi=none/\u=n))
  {r} (hx:o7 a n l u z h=some (r,h1)):gF P W0 ι w (Instr.sliceAt t s' lo hi none) (.slice r.a r.len r.cap) h1:=by
 unfold o7 at hx;split at hx
 .rename_i hc;cases hx;obtain⟨h1,h2,h3⟩:=hc;cases hr with
  |flat _ hf=>simp[dO] at hf
  |ptr _ a' ha=>
   have hb:=adg (P:=P) (w:=w) hl hu h1 h2 h3;obtain⟨l,rfl⟩:=amu h1;obtain⟨u,rfl⟩:=amu (an0 h1 h2);simp at hb⊢;by_cases hnl:n=l
   .subst hnl;have hul:u=n:=(by omega);subst hul;refine .ret (v':=.slice (some a') 0 0) ?_ ?_ R
    .simp[Instr.sliceAt,Instr.sureAddr,aI ht,hb,lQ hz]
    .rw[show u-u=0 by omega];exact .lP _ _ _ (.inr (by omega))
   .refine .ret (v':=.slice (some (a'.add (l*z))) (u-l) (n-l)) ?_ ?_ R
    .simp[Instr.sliceAt,Instr.sureAddr,aI ht,hb,lQ hz,hnl]
    .obtain⟨g1,g2,l2,g3,g4,g5⟩:=rO.plus ha (l*z);exact .slice _ _ _ _ _ l2 g1 g2 g3 g4 g5 (by omega) (.inr rfl) (λ_ hz0=>absurd hz0 (by omega))
 .cases hx
def Js (f:ξ->ζ->Sem (ForInStep ζ))(hf:∀n s,f (.int .u8 n) s=Pure.pure (.yield (s.push (UInt8.ofNat n.toNat)))) :
  ∀cs bs s w ,bytesOf cs=some bs->(forIn cs s f).run P w=.ok ⟨s.data++bs.toArray⟩ w
 |[],bs,s,w,hb=>by simp[bytesOf] at hb;subst hb;simp
 |c::cs,bs,s,w,hb=>by
  unfold bytesOf at hb;split at hb
  .rename_i heq;cases heq
  .rename_i n r heq;cases heq;split at hb
   .rename_i l hl;cases hb;have ih:=Js f hf cs l (s.push (UInt8.ofNat n.toNat)) w hl
    simp_all
   .cases hb
  .cases hb
theorem aN.bytes {cs cs'}(hl:aW P ι cs cs'):∀{bs},bytesOf cs=some bs->cs'=cs:=by
 induction cs generalizing cs' with
 |nil=>intro bs _;have:=hl.1;grind
 |cons v l ih=>
  intro bs hb;obtain⟨v',m,rfl,hv,hm⟩:=hl.cons_inv;unfold bytesOf at hb;split at hb
  .rename_i heq;cases heq
  .rename_i n r heq;cases heq
   grind [hv.int]
  .cases hb
theorem O7 (R:Rel P W0 ι h w){a}{n c}{s'}(hr:aN P ι (.slice a n c) s'){s}(hx:strOf ⟨a,n,c⟩ h=some (s,h1)) :
  gF P W0 ι w (Conv.bytesToString s') (.string s) h1:=by
 unfold strOf at hx;split at hx
 .rename_i cs hcs;split at hx
  .rename_i l hl;cases hx;cases hr with
   |flat _ hf=>
    cases a with
    |some a=>simp[dO] at hf
    |none=>
     simp[bu] at hcs;obtain⟨_,rfl⟩:=hcs;simp[bytesOf] at hl;subst hl;exact .ret (by simp[Conv.bytesToString];rfl) .ofStr R
   |lP a a' c hce=>
    have:cs=[]:=by
     grind [bu]
    subst this;simp[bytesOf] at hl;subst hl;refine .ret (v':=.string .empty) ?_ .ofStr R;simp[Conv.bytesToString,loadCells,loadCellsFrom]
   |slice a a' n c c' lc f1 f2 f3 f4 f5 f6 f7 f8=>
    obtain⟨cs',q1,q2,q3,q4,q5⟩:=vh R ⟨f1,f2,lc,f3,f4,f5⟩ hcs;obtain rfl:=aN.bytes q1 hl;refine .ret ?_ .ofStr R;simp only[Conv.bytesToString,Sem.run_bind,q4,Result.andThen_ok];rw[List.forIn_toArray,Js _ (λ_ _=>rfl) cs' l .empty w hl];simp[ofBytes]
  .cases hx
 .cases hx
end Go.Ago
