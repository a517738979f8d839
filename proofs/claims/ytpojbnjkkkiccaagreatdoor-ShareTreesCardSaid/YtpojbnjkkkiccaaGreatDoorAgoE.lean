
import Derived.Test.YtpojbnjkkkiccaaGreatDoorAgoM
set_option linter.all false
namespace Go.Ago
open Go
variable {P:Program}{W0:Fz}{ι ι':gO}{h h' h1:ai}{w w':World}
theorem Rn:∀{l} {v} {x},D6 l v=some x->v=QX l x:=by
 grind [D6,vA]
def T0:∀{ls} {vs} {x},D7 ls vs=some x->vs=Le ls x
 |[],[],_,_=>rfl
 |[],_::_,_,hx=>by cases hx
 |[l],[],_,hx=>by cases hx
 |[l],[v],x,hx=>by rw[Le,<-Rn hx]
 |[l],_::_::_,_,hx=>by cases hx
 |l::l'::ls,[],_,hx=>by cases hx
 |l::l'::ls,v::vs,x,hx=>by
  simp[D7] at hx;split at hx
  .rename_i a b ha hb;cases hx;rw[Le,<-Rn ha,<-T0 hb]
  .cases hx
def Ro {t}{v}{x}(hx:Ox t v=some x):v=GH t x:=by
 cases t with
 |one l=>exact Rn hx
 |agg ls=>
  cases v<;>simp only[Ox] at hx<;>try cases hx
  rename_i cs;rw[GH,<-T0 hx]
theorem Ph vs:∀cs off k ,off+k+vs.length<=cs.size ->
  ((vs.zipIdx k).foldl (λ(cs:ν) (p:ξ×Nat)=>cs.setIfInBounds (off+p.2) p.1) cs).toList=aM cs.toList (off+k) vs:=by
 induction vs with
 |nil=>intro cs off k _;simp[aM]
 |cons v r ih=>
  intro cs off k hk;simp at hk;rw[List.zipIdx_cons,List.foldl_cons,ih _ off (k+1) (by simp;omega)];apply amv;intro i;have hl1:off+(k+1)+r.length<=(cs.setIfInBounds (off+k) v).toList.length:=by simp;omega
  have hl2:off+k+(v::r).length<=cs.toList.length:=by simp;omega
  rw[uz _ _ _ _ hl1,uz _ _ _ _ hl2];simp only[abK,Array.toList_setIfInBounds];by_cases h1:i<off+k
  .grind
  grind
def Ni (vs:ν) cs off :
  (vs.zipIdx.foldl (λ(cs:ν) (x:ξ×Nat)=>cs.setIfInBounds (off+x.2) x.1) cs)=((vs.toList.zipIdx 0).foldl (λ(cs:ν) (p:ξ×Nat)=>cs.setIfInBounds (off+p.2) p.1) cs):=by
 rw[<-Array.foldl_toList];simp
def Pj (P:Program)(ι:gO)(l l':List (Nat×ξ)):Prop:=l.length=l'.length/\∀(i:Nat) (a b:Nat×ξ),l[i]?=some a->l'[i]?=some b->a.1=b.1/\aN P ι a.2 b.2
theorem xg place:∀ps ps' cs cs' ,Pj P ι ps ps'->aW P ι cs cs'->∀r,Bv place cs ps=some r ->
  ∃r',Instr.fill place cs'.toArray ps'=some r'.toArray/\aW P ι r r'
 |[],ps',cs,cs',hp,hl,r,hf=>by
  have:ps'=[]:=ac4 hp.1.symm
  grind [Bv,Instr.fill]
 |(i,v)::ps,ps',cs,cs',hp,hl,r,hf=>by
  cases ps' with
  |nil=>simp[Pj] at hp
  |cons q ps'=>
   obtain⟨i',v'⟩:=q;have h0:=hp.2 0 (i,v) (i',v') rfl rfl;simp at h0;obtain⟨rfl,hv⟩:=h0;have hp':Pj P ι ps ps':=⟨by have:=hp.1;simpa using this,λj a b x y=>hp.2 (j+1) a b (by simpa using x) (by simpa using y)⟩;simp[Bv] at hf;split at hf
   .cases hf
   .rename_i off size hpl;split at hf
    .rename_i hc;simp only[abw] at hc;have c1:=IT hc.1;have c2:=ah5 hc.2;have hcs:=hv.cells;have hsz:v'.cells.size=v.cells.size:=(by have:=hcs.1;simpa using this.symm);have hlen:=hl.1;have hfit:off+v'.cells.toList.length<=cs'.toArray.size:=(by simp;omega);obtain⟨r',e1,e2⟩:=xg place ps ps' _ (aM cs' off v'.cells.toList) hp' (hl.aM hcs off) r hf;refine⟨r',?_,e2⟩;simp only[Instr.fill,hpl];rw[AT (by simp;omega)];rw[Ni];have:=Ph v'.cells.toList cs'.toArray off 0 (by simpa using hfit);simp at this;rw[<-ao4 (xs:=List.foldl _ _ _),this];exact e1
    .cases hf
theorem Ft place:∀ps cs r ,Bv place cs ps=some r->r.length=cs.length
 |[],cs,r,hf=>by grind [Bv]
 |(i,v)::ps,cs,r,hf=>by
  simp[Bv] at hf;split at hf
  .cases hf
  .split at hf
   .rename_i hc;simp only[abw] at hc;have c2:=ah5 hc.2;rw[Ft place ps _ r hf,oW _ _ _ (by simpa using c2)]
   .cases hf
theorem vj {E}{a:Go.Act}(HE:lv P ι E a.tmps):∀{xs} {vs},partsOf E xs=some vs->Pj P ι vs (xs.map λ(i,x)=>(i,a.eval x))
 |[],vs,hv=>by simp[partsOf] at hv;subst hv;exact⟨rfl,by simp⟩
 |(i,x)::xs,vs,hv=>by
  simp[partsOf] at hv;split at hv
  .rename_i v vs' h1 h2;cases hv;have ih:=vj HE h2;refine⟨by simp[ih.1],λj b c p q=>?_⟩;cases j with
   |zero=>simp at p q;subst p;subst q;exact⟨rfl,aK HE h1⟩
   |succ j=>exact ih.2 j b c (by simpa using p) (by simpa using q)
  .cases hv
theorem Jw:∀fs pl w ,placesOf P fs=some pl ->
  (fs.mapM λf=>(do pure (f.offset,<-sizeOf f.type):Sem (Nat×Nat))).run P w=.ok pl w
 |[],pl,w,hp=>by simp[placesOf] at hp;subst hp;simp
 |f::fs,pl,w,hp=>by
  simp[placesOf] at hp;split at hp
  .rename_i n l h1 h2;cases hp;have ih:=Jw fs l w h2;simp[List.mapM_cons,lQ h1]
   simp_all
  .cases hp
def Nj (R:Rel P W0 ι h w){t}{vs}{vs'}(hp:Pj P ι vs vs'.toList){v}(hx:(M0 P t vs).exec h=some (v,h1)) :
  gF P W0 ι w (Instr.build t vs') v h1:=by
 unfold M0 at hx;split at hx
 .rename_i fs z ht hz;obtain⟨hzf,hz1,_⟩:=fE hz;split at hx
  .rename_i pl hpl;split at hx
   .rename_i cs hcs;cases hx;obtain⟨r',e1,e2⟩:=xg (λi=>pl[i]?) vs vs'.toList _ _ hp (aW.flat hzf) _ hcs;refine .ret (v':=.agg r'.toArray) ?_ (.agg _ _ (by simpa using e2.1) λi u u' x y=>e2.2 i u u' (by simpa using x) (by simpa using y)) R;have hm:(fs.mapM λf=>(do pure (f.offset,<-sizeOf f.type):Sem (Nat×Nat))).run P w=.ok pl.toArray w:=by
     rw[Array.mapM_eq_mapM_toList];have:=Jw fs.toList pl w hpl
     simp_all
    simp[Instr.build,hz1,aI ht]
    simp_all
   .simp[Act.exec] at hx
  .simp[Act.exec] at hx
 .rename_i len e z ht hz;obtain⟨hzf,hz1,_⟩:=fE hz;split at hx
  .rename_i n hn;split at hx
   .rename_i cs hcs;cases hx;obtain⟨r',e1,e2⟩:=xg (λi=>some (i*n,n)) vs vs'.toList _ _ hp (aW.flat hzf) _ hcs;refine .ret (v':=.agg r'.toArray) ?_ (.agg _ _ (by simpa using e2.1) λi u u' x y=>e2.2 i u u' (by simpa using x) (by simpa using y)) R;simp at e1;simp[Instr.build,hz1,aI ht,lQ hn,e1]
   .simp[Act.exec] at hx
  .simp[Act.exec] at hx
 .simp[Act.exec] at hx
theorem Fu (R:Rel P W0 ι h w){nm}{t}{len}{vs}{vs'}(hp:Pj P ι vs vs'.toList){v}(hx:(vy P nm t len vs).exec h=some (v,h1)) :
  gF P W0 ι w (Instr.buildSlice t len vs') v h1:=by
 unfold vy at hx;split at hx
 .rename_i e ht;split at hx
  .rename_i n z hn hz;obtain⟨hzf,hz1,hz2,_⟩:=fE hz;have hnz:n=z.cells.size:=by grind
   split at hx
   .rename_i cs hle hcs;simp[Act.exec] at hx;split at hx
    .rename_i b h2 hb;cases hx;have hle:=ah5 hle;have hzl:(List.replicate len z.cells.toList).flatten.all dO=true:=by
      grind
     obtain⟨r',e1,e2⟩:=xg (λi=>some (i*n,n)) vs vs'.toList _ _ hp (aW.flat hzl) _ hcs;have fin:∀(q next':Nat),h.used q=false->q<next'/\h.next<=next'->cs.all fk=true ->
       gF P W0 ι w (Instr.buildSlice t len vs') (.slice (some ⟨q,0,none⟩) len (len+1)) (h.cM q next' e cs):=by
      intro q next' k1 k2 hsc
      obtain⟨ι',hle',hnew,R'⟩:=R.put q next' k1 k2 e cs r' [] (0,0) (by intro o _;simp) e2 (List.all_eq_true.1 hsc)
      rw[afx] at R';have hlen:=Ft _ _ _ _ hcs;refine⟨.slice (some ⟨w.heap.size,0,none⟩) len len,{ w with heap:=w.heap.push (.cells r'.toArray e) },ι',?_,?_,R',hle'⟩
      .have hno:¬(16777216<len*n):=(by omega);simp only[Instr.buildSlice,Sem.run_bind,aI ht,Result.andThen_ok,lQ hn,show (2:Nat)^24=16777216 from rfl,gt_iff_lt,hno,afM,Sem.run_pure];by_cases h0:len*n=0
       .have e0:(List.replicate len z.cells.toList).flatten=[]:=ac4 (by simpa[<-hnz] using h0);have hmk:(Array.range (len*n)).map (λj=>(#[]:ν)[j%(#[]:ν).size]!)=(List.replicate len z.cells.toList).flatten.toArray:=by
         grind
        rw[By h0];simp only[Sem.run_bind,Sem.run_pure,Result.andThen_ok,hmk,e1,newRow,run_newObj]
       .have hmk:(Array.range (len*n)).map (λj=>z.cells[j%z.cells.size]!)=(List.replicate len z.cells.toList).flatten.toArray:=by
         grind [zO]
        rw[AT h0];simp[Sem.run_bind,hz1,Sem.run_pure,Result.andThen_ok,hmk,e1,newRow,run_newObj]
      .refine .slice _ _ _ _ _ _ rfl rfl hnew rfl rfl (abi _) (.inr rfl) (λ_ _=>?_)
       grind
     unfold iI at hb;split at hb
     .rename_i hsc;cases nm with
      |none=>cases hb;exact fin _ _ R.unused ⟨by omega,by omega⟩ hsc
      |some k=>
       grind
     .cases hb
    .cases hx
   .simp[Act.exec] at hx
  .simp[Act.exec] at hx
 .simp[Act.exec] at hx
theorem Jx {t}{len}{vs}{vs'}(hp:Pj P ι vs vs'.toList){cs}(hx:Fp P t len vs=some cs) :
  (∀v∈cs,fk v=true)/\∃e r',aW P ι cs r'/\∀w,(Instr.buildSlice t len vs').run P w=.ok (.slice (some ⟨w.heap.size,0,none⟩) len len) { w with heap:=w.heap.push (.cells r'.toArray e) }:=by
 unfold Fp at hx;split at hx
 .rename_i e ht;split at hx
  .rename_i n z hn hz;obtain⟨hzf,hz1,hz2,_⟩:=fE hz;have hnz:n=z.cells.size:=by grind
   split at hx
   .rename_i cs0 hle hcs;split at hx
    .rename_i hsc;cases hx;have hle:=ah5 hle;have hzl:(List.replicate len z.cells.toList).flatten.all dO=true:=by
      grind
     obtain⟨r',e1,e2⟩:=xg (λi=>some (i*n,n)) vs vs'.toList _ _ hp (aW.flat hzl) _ hcs;refine⟨List.all_eq_true.1 hsc,e,r',e2,λw=>?_⟩;have hno:¬(16777216<len*n):=(by omega);simp only[Instr.buildSlice,Sem.run_bind,aI ht,Result.andThen_ok,lQ hn,show (2:Nat)^24=16777216 from rfl,gt_iff_lt,hno,afM,Sem.run_pure];by_cases h0:len*n=0
     .have e0:(List.replicate len z.cells.toList).flatten=[]:=ac4 (by simpa[<-hnz] using h0);have hmk:(Array.range (len*n)).map (λj=>(#[]:ν)[j%(#[]:ν).size]!)=(List.replicate len z.cells.toList).flatten.toArray:=by
       grind
      rw[By h0];simp only[Sem.run_bind,Sem.run_pure,Result.andThen_ok,hmk,e1,newRow,run_newObj]
     .have hmk:(Array.range (len*n)).map (λj=>z.cells[j%z.cells.size]!)=(List.replicate len z.cells.toList).flatten.toArray:=by
       grind [zO]
      rw[AT h0];simp[Sem.run_bind,hz1,Sem.run_pure,Result.andThen_ok,hmk,e1,newRow,run_newObj]
    .cases hx
   .cases hx
  .cases hx
 .cases hx
theorem adh {strict}{s}{sz}{e}{n}{new}{r}(hx:app strict s sz e n new h=some r):new.length=n*sz:=by
 replace hx:=O5 hx
 unfold AW at hx
 grind
def Rp {y}{u}(hn:YB y u=true):u=.nilIface->∃c,y=.const c:=by
 rintro rfl;cases y<;>simp[YB] at hn;exact⟨_,rfl⟩
def Ef {v}{k}{r}(hx:(Bw v k).exec h=some r):∃a,v=.pointer (some a)/\(k a).exec h=some r:=by
 unfold Bw at hx;split at hx
 .exact⟨_,rfl,hx⟩
 .simp[Act.exec] at hx
theorem YX {e u}{cells off}(hc:P.cellsOf e<=cells)(h1:rowAt P (sameLayout P P.depth · u) P.depth e 1 off 1=true):liesAt P P.depth e (cells/P.cellsOf e) off u 1=true:=by
 have hd:P.depth=(2*(P.types.size+Made.depth)+1)+1:=rfl;generalize hf:(sameLayout P P.depth · u)=fits at h1
 have h2:rowAt P fits P.depth e (cells/P.cellsOf e) off 1=true:=by
  rw[hd] at h1⊢;simp only[rowAt] at h1⊢;split at h1
  .cases h1
  .rename_i hs;rw[AT hs];have hp:1<=cells/P.cellsOf e:=by
    rw[Nat.le_div_iff_mul_le (by omega)];omega
   grind
 have h3:∀d,P.depth=d+1->liesAt P (d+1) e (cells/P.cellsOf e) off u 1=true:=λd hdd=>by
  simp only[liesAt,anU]
  grind
 rw[hd];exact h3 _ hd
theorem Rel.shut (R:Rel P W0 ι h w){b}{c}{g base}{e}(hb:h.get b=some (.cells c g base e))(hg:g≠0){l}(hl:ι b=some l) a (ha:a.block=l.ar) n :
  Rel P W0 ι (h.shut g) (w.freeze a n):=by
 obtain⟨l0,e1,e2,e3,e4,e5⟩:=R.live b c g base e hb;rw[hl] at e1;cases e1;obtain⟨cc,fz,hh,q1,q2⟩:=R.loc b l hl;have hro:l.ro=false:=by grind
 have hne:∀i,i≠l.ar->(w.freeze a n).heap[i]?=w.heap[i]?:=λi hi=>by
  unfold World.freeze
  grind
 have heq:∃f2,(w.freeze a n).heap[l.ar]?=some (.cells cc l.elem f2):=by
  unfold World.freeze
  grind
 have hget:∀j c1 g1 ba1 e1,(h.shut g).get j=some (.cells c1 g1 ba1 e1)->h.get j=some (.cells c1 g1 ba1 e1)/\g1≠g:=by
  intro j c1 g1 ba1 e1 hj
  replace hj:(match h.get j with
   |some (.cells c' g' base' e')=>cond (Nat.beq g' g) none (some (.cells c' g' base' e'))
   |o=>o)=some (.cells c1 g1 ba1 e1):=hj
  split at hj
  .rename_i hq;rw[bf] at hj
   grind
  grind
 have hoff:∀j c1 g1 ba1 e1 l1,(h.shut g).get j=some (.cells c1 g1 ba1 e1)->ι j=some l1->l1.ar≠l.ar:=by
  intro j c1 g1 ba1 e1 l1 hj hl1 hbl;obtain⟨h1,h2⟩:=hget _ _ _ _ _ hj;exact h2 (R.jo b j l l1 _ _ _ _ _ _ _ _ hl hl1 hro hb h1 hbl.symm).1.symm
 have hos:(w.freeze a n).os=w.os/\(w.freeze a n).output=w.output:=by unfold World.freeze;grind
 refine⟨λi o hi=>?_,λb hb=>⟨?_,(R.zN b hb).2⟩,R.nx,λb1 l1 hl1=>?_,λb1 c1 g1 ba1 e1' hb1=>?_,λb1 b2 l1 l2 c1 g1 ba1 e1' c2 g2 ba2 e2' h1 h2 h3 h4 h5 h6=>?_,λb1 c1 g1 ba1 e1' hb1 hg1=>?_,⟨hos.1.trans R.os.1,hos.2.trans R.os.2⟩,R.GL,R.mp.Da rfl (λ_ x=>x) (.refl _) rfl λr es c hr=>?_⟩
 .rw[hne i (λx=>by grind)];exact R.lA i o hi
 .show (match h.get b with
   |some (.cells c' g' base' e')=>cond (Nat.beq g' g) none (some (.cells c' g' base' e'))
   |o=>o)=none
  rw[(R.zN b hb).1]
 .obtain⟨cc1,fz1,k1,k2,k3⟩:=R.loc b1 l1 hl1;by_cases hbl:l1.ar=l.ar
  .obtain⟨f2,h2⟩:=heq;rw[hbl,hh] at k1
   injection acZ k1 with x1 x2 x3
   refine⟨cc,f2,by rw[hbl,h2,x2],by rw[x1];exact k2,λx=>⟨(k3 x).1,λhv=>?_⟩⟩;obtain⟨b2,l2,c2,g2,ba2,e2',p1,p2,p3⟩:=hv
   grind
  .refine⟨cc1,fz1,by rw[hne _ hbl];exact k1,k2,λx=>⟨(k3 x).1,λhv=>(k3 x).2 (hv.of λj c1 g1 ba1 e1 hj=>⟨_,_,_,_,(hget _ _ _ _ _ hj).1⟩)⟩⟩
 .obtain⟨l1,k1,k2,k3,k4,k5⟩:=R.live b1 c1 g1 ba1 e1' (hget _ _ _ _ _ hb1).1
  grind [World.cell?]
 .exact R.jo b1 b2 l1 l2 c1 g1 ba1 e1' c2 g2 ba2 e2' h1 h2 h3 (hget _ _ _ _ _ h4).1 (hget _ _ _ _ _ h5).1 h6
 .exact R.qI b1 c1 g1 ba1 e1' (hget _ _ _ _ _ hb1).1 hg1
 grind
theorem L8 w:∀(l:List UInt8) a acc ,(∀j x,l[j]?=some x->∃m:Int,w.cell? (a.add j)=some (.int .u8 m)/\x=UInt8.ofNat m.toNat) ->
  (loadBytes a acc l.length).run P w=.ok ⟨acc.data++l.toArray⟩ w
 |[],a,acc,_=>by simp[loadBytes]
 |x::l,a,acc,h=>by
  obtain⟨m,h0,hm⟩:=h 0 x rfl;have h0:w.cell? a=some (.int .u8 m):=by simpa[Addr.add] using h0
  have ih:=L8 w l (a.add 1) (acc.push x) (λj y hy=>by
   have:=h (j+1) y (by simpa using hy);have e:(a.add 1).add j=a.add (j+1):=by
    unfold Addr.add
    grind
   rw[e];exact this)
  have hx:m.toNat.toUInt8=x:=hm.symm;simp[abK,loadBytes,Sem.run_bind,run_load,h0,Result.andThen,hx];rw[ih]
  congr 1
  apply aoJ;simp[ByteArray.push]
def Pk w {ts}{pt ty e}(ht:ts[0]?=some pt)(hp:P.underlying pt=some (.pointer e))(hc:P.cellsOf e=1) a {cells}(hsh:w.shape? a.block=some (e,cells)) l (h0:l≠[])
  (hn:a.off+l.length<=cells) (h63:l.length<=9223372036854775807) (hcell:∀j x,l[j]?=some x->∃m:Int,w.cell? (a.add j)=some (.int .u8 m)/\x=UInt8.ofNat m.toNat) :
  (Builtin.unsafeString_ ts ty #[.pointer (some a),.int .i64 l.length]).run P w=.ok (.string ⟨l.toArray⟩) (w.freeze a l.length):=by
 have hl:l.length≠0:=by simpa using h0
 have hlb:=L8 (P:=P) w l a .empty hcell;have hlies:liesAt P P.depth e (cells/P.cellsOf e) a.off e l.length=true:=by
  have hd:P.depth=(2*(P.types.size+Made.depth)+1)+1:=rfl;rw[hd];simp[liesAt,anU];left;rw[hd];simp[rowAt,hc,hn,sameLayout,Nat.mod_one]
 have h63':¬(9223372036854775807:Int)<(l.length:Int):=by omega
 have hdef:Builtin.unsafeString_ ts ty #[.pointer (some a),.int .i64 l.length] =
   (do
    let n <-asInt (.int .i64 l.length)
    let some pt := ts[0]? | stuck "unsafe.String: no argument types"
    if n < 0 then runtimePanic (.error "unsafe.String: len out of range")
    if n>IntKind.i64.max then unsupported (.unsafePointer "String: a length above the largest int")
    if n=0 then pure (.string .empty)
    else if <-variablesAt a (<-elemOf pt) n.toNat then do
     let s <-loadBytes a .empty n.toNat
     freeze a n.toNat
     pure (.string s)
    else unsupported (.unsafePointer "String: not so many bytes at ptr")) := rfl
 rw[hdef];have hmax:IntKind.i64.max=9223372036854775807:=rfl;have hneg:¬(l.length:Int)<0:=by omega
 simp[asInt,asIntOf,hmax,h63',hneg,hl,variablesAt,hsh,elemOf,run_underlying hp,hlies,hlb,ht]
theorem DU:∀{cs} {l},bytesOf cs=some l->cs.length=l.length/\∀(j:Nat) x ,l[j]?=some x->∃n:Int,cs[j]?=some (Value.int .u8 n)/\x=UInt8.ofNat n.toNat
 |[],l,hx=>by cases hx;grind
 |v::r,l,hx=>by
  cases v with
  |int k n=>
   cases k with
   |u8=>
    simp[bytesOf] at hx;split at hx
    .rename_i l' hl;cases hx;obtain⟨q1,q2⟩:=DU hl
     grind
    .cases hx
   |_=>simp[bytesOf] at hx
  |_=>simp[bytesOf] at hx
def T4 {p}{k}{r}(hx:(Act.ask Addr (nn p) k).exec h=some r):∃a,p=some a/\(k a).exec h=some r:=by
 cases p with
 |none=>simp[Act.exec,nn] at hx
 |some a=>exact⟨a,rfl,by simpa[Act.exec,nn] using hx⟩
theorem Pl (R:Rel P W0 ι h w){s d}{x x' v}(hr:aN P ι x x')(hx:(OL P s d x).exec h=some (v,h1)):gF P W0 ι w (convert s d x') v h1:=by
 unfold OL at hx;split at hx
 .rename_i t a hs hd;split at hx
  .rename_i n hz;obtain⟨i,hi,hsz⟩:=M8 hz;obtain⟨a,e0,hx2⟩:=T4 hx;clear hx
   rename _=>hx
   subst e0;obtain⟨a',rfl,ha⟩:=hr.Li;simp[Act.exec] at hx;split at hx
   .rename_i r h2 hb;cases hx;unfold inB at hb;split at hb
    .rename_i c g base e hg;split at hb
     .rename_i hlt;cases hb;obtain⟨l,k1,k2,k3,k4,k5⟩:=R.live _ _ _ _ _ hg;obtain⟨cc,fz,q1,q2,q3⟩:=R.loc _ _ k1;obtain⟨_,_,l2,p1,p2,p3⟩:=ha;rw[k1] at p1;cases p1;refine .ret (Lib.run_to_unsafe w a' hs hd hi (by omega) (e:=l.elem) (cells:=cc.size) (by rw[p2];simp[World.shape?,q1]) (by rw[p3];omega)) (.ptr _ _ ⟨by assumption,by assumption,l,k1,p2,p3⟩) R
     .cases hb
    .cases hb
   .cases hx
  .simp[Act.exec] at hx
 .rename_i u a hs hd;split at hx
  .rename_i n hz;obtain⟨i,hi,hsz⟩:=M8 hz;cases hck:(Nat.beq (P.cellsOf u) (n+1)&&rowAt P (sameLayout P P.depth · u) P.depth u 1 0 1&&agi P u) with
   |false=>rw[hck] at hx;simp[Act.exec] at hx
   |true=>
   rw[hck] at hx;rw[abw,abw] at hck;obtain⟨hck,hemb⟩:=hck;have hcu:=IT hck.1;obtain⟨a,e0,hx2⟩:=T4 hx;clear hx
   rename _=>hx
   subst e0;obtain⟨a',rfl,ha⟩:=hr.Li;simp[Act.exec] at hx;split at hx
   .rename_i r h2 hb;cases hx;unfold atB at hb;split at hb
    .rename_i c g base e hg;split at hb
     .rename_i hlt;cases hb;obtain⟨l,k1,k2,k3,k4,k5⟩:=R.live _ _ _ _ _ hg;obtain⟨cc,fz,q1,q2,q3⟩:=R.loc _ _ k1;obtain⟨s1,s2,l2,p1,p2,p3⟩:=ha;rw[k1] at p1;cases p1;have h0:=k3.2.1 hlt.1;refine .ret (Lib.run_from_unsafe w a' hs hd hi (e:=l.elem) (cells:=cc.size) (by rw[p2];simp[World.shape?,q1]) ?_) (.ptr _ _ ⟨s1,s2,l,k1,p2,p3⟩) R;obtain⟨m1,m2⟩:P.cellsOf e<=cc.size/\rowAt P (sameLayout P P.depth · u) P.depth e 1 a.off 1=true:=by
       rcases hlt.2 with hlt|hlt
       .grind
       .obtain⟨x,x1,x2⟩:=List.any_eq_true.1 hlt;have x3:=List.all_eq_true.1 hemb x x1;simp only[abw] at x2;obtain⟨⟨⟨y1,y2⟩,y3⟩,y4⟩:=x2;have y3:=ah5 y3;obtain rfl:=IT y1;obtain rfl:=IT y2;rw[y1,apt,Bool.false_or,abw] at x3
        grind [Nat.eq_of_beq_eq_true]
      rw[p3,h0,adr,show l.elem=e from k2];exact YX m1 m2
     .cases hb
    .cases hb
   .cases hx
  .simp[Act.exec] at hx
 .rename_i hs hd;cases hx;obtain rfl:=hr.int;exact .ret (by simp[convert,aI hs,aI hd,Conv.intToInt]) .ofInt R
 .rename_i hs hd;cases hx;obtain rfl:=hr.int;exact .ret (by simp[convert,aI hs,aI hd,Conv.intToFloat,Yx]) .CF R
 .rename_i hs hd;cases hx;obtain rfl:=hr.int;exact .ret (by simp[convert,aI hs,aI hd,Conv.intToString,OH]) .ofStr R
 .rename_i hs hd;split at hx
  .rename_i he hsz;simp[Act.exec] at hx;split at hx
   .rename_i r h2 hb;cases hx;obtain rfl:=hr.str;obtain⟨v',w',ι',q,rest⟩:=Jq R hsz hb;exact⟨v',w',ι',by simp[convert,aI hs,aI hd,aI he,q],rest⟩
   .cases hx
  .simp[Act.exec] at hx
 .rename_i hs hd;split at hx
  .rename_i he;simp[Act.exec] at hx;split at hx
   .rename_i r h2 hb;cases hx;obtain⟨v',w',ι',q,rest⟩:=O7 R hr hb;obtain⟨a',c',rfl,_⟩:=hr.slO;exact⟨v',w',ι',by cases a'<;>simp[convert,aI hs,aI hd,aI he,q],rest⟩
   .cases hx
  .simp[Act.exec] at hx
 .simp[Act.exec] at hx
theorem Eg {E}{a:Go.Act}(HE:lv P ι E a.tmps){o}{v}(hv:H7 E o=some v) :
  (∀u,v=some u->∃u',o.map a.eval=some u'/\aN P ι u u')/\(v=none->o.map a.eval=none):=by
 cases o with
 |none=>grind [H7]
 |some x=>
  simp[H7] at hv;split at hv
  .rename_i u hu;cases hv;exact⟨λu2 e=>by cases e;exact⟨_,rfl,aK HE hu⟩,by simp⟩
  .cases hv
def Nk (R : Rel P W0 ι h w) {t} {x x' v} {lo hi mx lo' hi' mx'} (hr : aN P ι x x')
    (hl : (∀ u, lo = some u → ∃ u', lo' = some u' ∧ aN P ι u u') ∧ (lo = none → lo' = none)) (hh : (∀ u, hi = some u → ∃ u', hi' = some u' ∧ aN P ι u u') ∧ (hi = none → hi' = none))
    (hm : (∀ u, mx = some u → ∃ u', mx' = some u' ∧ aN P ι u u') ∧ (mx = none → mx' = none)) (hx : (Ji P t x lo hi mx).exec h = some (v, h1)) :
    gF P W0 ι w (Instr.sliceAt t x' lo' hi' mx') v h1 := by
  have int1 : ∀ {o o' : Option ξ} {k : IntKind} {n : Int}, o = some (.int k n) → ((∀ u, o = some u → ∃ u', o' = some u' ∧ aN P ι u u') ∧ (o = none → o' = none)) → ∃ k, o' = some (.int k n) := by
    intro o o' k n ho hp
    obtain ⟨u', e1, e2⟩ := hp.1 _ ho
    exact ⟨k, by rw [e1, e2.int]⟩
  unfold Ji at hx
  split at hx
  · rename_i ht
    obtain rfl := hr.str
    obtain rfl := hm.2 rfl
    split at hx
    all_goals first
      | (simp [Act.exec] at hx; done)
      | (simp [Act.exec] at hx
         split at hx
         · rename_i r h2 hb; cases hx
           first
           | exact wz R ht (.inr ⟨hl.2 rfl, rfl⟩) (.inr ⟨hh.2 rfl, rfl⟩) hb
           | exact wz R ht (.inl (int1 rfl hl)) (.inr ⟨hh.2 rfl, rfl⟩) hb
           | exact wz R ht (.inr ⟨hl.2 rfl, rfl⟩) (.inl (int1 rfl hh)) hb
           | exact wz R ht (.inl (int1 rfl hl)) (.inl (int1 rfl hh)) hb
         · cases hx)
  · rename_i ht
    obtain rfl := hm.2 rfl
    split at hx
    · rename_i z hz
      split at hx
      all_goals first
        | (simp [Act.exec] at hx; done)
        | (simp [Act.exec] at hx
           split at hx
           · rename_i r h2 hb; cases hx
             first
             | exact wA (s := ⟨_, _, _⟩) R ht hz hr (.inr ⟨hl.2 rfl, rfl⟩) (.inr ⟨hh.2 rfl, rfl⟩) hb
             | exact wA (s := ⟨_, _, _⟩) R ht hz hr (.inl (int1 rfl hl)) (.inr ⟨hh.2 rfl, rfl⟩) hb
             | exact wA (s := ⟨_, _, _⟩) R ht hz hr (.inr ⟨hl.2 rfl, rfl⟩) (.inl (int1 rfl hh)) hb
             | exact wA R ht hz hr (.inl (int1 rfl hl)) (.inl (int1 rfl hh)) hb
           · cases hx)
    · simp [Act.exec] at hx
  · rename_i ht
    obtain rfl := hm.2 rfl
    split at hx
    · rename_i z hz
      split at hx
      all_goals first
        | (simp [Act.exec] at hx; done)
        | (simp [Act.exec] at hx
           split at hx
           · rename_i r h2 hb; cases hx
             first
             | exact wB R ht hz hr (.inr ⟨hl.2 rfl, rfl⟩) (.inr ⟨hh.2 rfl, rfl⟩) hb
             | exact wB R ht hz hr (.inl (int1 rfl hl)) (.inr ⟨hh.2 rfl, rfl⟩) hb
             | exact wB R ht hz hr (.inr ⟨hl.2 rfl, rfl⟩) (.inl (int1 rfl hh)) hb
             | exact wB R ht hz hr (.inl (int1 rfl hl)) (.inl (int1 rfl hh)) hb
           · cases hx)
    · simp [Act.exec] at hx
  · simp [Act.exec] at hx
theorem aW.one {v}{l'}(hl:aW P ι [v] l'):∃v',l'=[v']/\aN P ι v v':=by
 obtain⟨v',m,rfl,hv,hm⟩:=hl.cons_inv;have:m=[]:=ac4 hm.1.symm
 grind
theorem aW.two {v u}{l'}(hl:aW P ι [v,u] l'):∃v' u',l'=[v',u']/\aN P ι v v'/\aN P ι u u':=by
 obtain⟨v',m,rfl,hv,hm⟩:=hl.cons_inv;obtain⟨u',rfl,hu⟩:=hm.one
 grind
theorem zP {e}{n}(hs:bU P e=some n):∃i,P.info? e=some i/\i.size=n:=by
 grind [bU]
theorem Jy (R:Rel P W0 ι h w){strict}{b}{ts}{ty}{cons}{vs}{vs'}(hl:aW P ι vs vs'.toList){v}
  (hx:(sQ P strict b ts.toList vs).exec h=some (v,h1)):Re P W0 ι w (builtin b ts ty cons vs') v h1:=by
 generalize hts:ts.toList=tl at hx;unfold sQ at hx;split at hx
 .rename_i t tr s;obtain⟨v',e1,e2⟩:=hl.one;have hvs:vs'=#[v']:=alY (by simpa using e1);obtain rfl:=e2.str;have ht0:ts[0]?=some t:=by rw[<-ahP,hts];rfl
  split at hx
  .rename_i ht;cases hx;subst hvs;exact gF.o (.ret (by simp[Builtin.len_,ht0,aI ht,goInt]) .ofInt R)
  .simp[Act.exec] at hx
 .rename_i t tr a n c;obtain⟨v',e1,e2⟩:=hl.one;have hvs:vs'=#[v']:=alY (by simpa using e1);obtain⟨a',c',rfl,_⟩:=e2.slO;have ht0:ts[0]?=some t:=by rw[<-ahP,hts];rfl
  split at hx
  .rename_i ht;cases hx;subst hvs;exact gF.o (.ret (by simp[Builtin.len_,ht0,aI ht,goInt]) .ofInt R)
  .simp[Act.exec] at hx
 .rename_i t tr m;obtain⟨v',e1,e2⟩:=hl.one;have hvs:vs'=#[v']:=alY (by simpa using e1);have ht0:ts[0]?=some t:=by rw[<-ahP,hts];rfl
  subst hvs;split at hx
  .rename_i ht;simp only[Act.exec] at hx;split at hx
   .rename_i n h2 hn;cases hx;exact gF.o (Pf R ht0 ht e2 hn)
   .cases hx
  .simp[Act.exec] at hx
 .rename_i t t' a n c a' n' c';obtain⟨v',u',e1,e2,e3⟩:=hl.two;have hvs:vs'=#[v',u']:=alY (by simpa using e1);have ht0:ts[0]?=some t:=by rw[<-ahP,hts];rfl
  subst hvs;split at hx
  .rename_i e e' ht ht';split at hx
   .rename_i z hz;simp[Act.exec] at hx;split at hx
    .rename_i k h2 hn;cases hx;exact gF.o (Pg R ht0 ht hz e2 e3 hn)
    .cases hx
   .simp[Act.exec] at hx
  .simp[Act.exec] at hx
 .rename_i k x k' y;obtain⟨v',u',e1,e2,e3⟩:=hl.two;have hvs:vs'=#[v',u']:=alY (by simpa using e1);obtain rfl:=e2.int;obtain rfl:=e3.int;split at hx
  .cases hx;subst hvs;exact gF.o (.ret (by simp[Builtin.min_,Builtin.min2]) .ofInt R)
  .simp[Act.exec] at hx
 .rename_i k x k' y;obtain⟨v',u',e1,e2,e3⟩:=hl.two;have hvs:vs'=#[v',u']:=alY (by simpa using e1);obtain rfl:=e2.int;obtain rfl:=e3.int;split at hx
  .cases hx;subst hvs;exact gF.o (.ret (by simp[Builtin.max_,Builtin.max2]) .ofInt R)
  .simp[Act.exec] at hx
 .rename_i t t' a n c a' n' c';obtain⟨v',u',e1,e2,e3⟩:=hl.two;have hvs:vs'=#[v',u']:=alY (by simpa using e1);have hts2:ts=#[t,t']:=alY (by simpa using hts);subst hvs;subst hts2;split at hx
  .rename_i e e' ht ht';split at hx
   .rename_i z zz z' hsz hzz hsz';split at hx
    .rename_i hc;simp only[abw] at hc;have hzz':=IT hc.1;have hb:=ah5 hc.2;obtain⟨i,hi,rfl⟩:=zP hsz;rw[hi] at hb;simp[Act.exec] at hx;split at hx
     .rename_i cs h2 hrd;obtain⟨rfl,hcs⟩:=YV hrd;split at hx
      .rename_i r h3 hap;cases hx;obtain⟨cs',S⟩:=Src.an7 R e3 hcs;exact gF.o (GO R ht (.inl ⟨_,ht'⟩) hi hzz hb e2 S hap)
      .cases hx
     .cases hx
    .simp[Act.exec] at hx
   .simp[Act.exec] at hx
  .simp[Act.exec] at hx
 .rename_i t t' a n c s;obtain⟨v',u',e1,e2,e3⟩:=hl.two;have hvs:vs'=#[v',u']:=alY (by simpa using e1);have hts2:ts=#[t,t']:=alY (by simpa using hts);subst hvs;subst hts2;obtain rfl:=e3.str;split at hx
  .rename_i e ht ht';split at hx
   .rename_i zz he hzz hsz;split at hx
    .rename_i hb;have hb:=ah5 hb;obtain⟨i,hi,hs1⟩:=zP hsz;rw[hi] at hb;simp[Act.exec] at hx;split at hx
     .rename_i r h3 hap;cases hx;have S:Src P ι h w i.size s.size (.string s) (cB s) (cB s):=(by rw[hs1];exact Src.ofStr s);rw[<-hs1] at hap;exact gF.o (GO R ht (.inr ht') hi hzz hb e2 S hap)
     .cases hx
    .simp[Act.exec] at hx
   .simp[Act.exec] at hx
  .simp[Act.exec] at hx
 .rename_i a n c;obtain⟨v',e1,e2⟩:=hl.one;have hvs:vs'=#[v']:=alY (by simpa using e1);subst hvs;simp[Act.exec] at hx;split at hx
  .rename_i p h2 hc;cases hx;unfold Jh at hc;split at hc
   .cases hc;obtain⟨a',c',rfl,hn⟩:=e2.slO;obtain rfl:a'=none:=(by cases a'<;>simp_all);exact gF.o (.ret rfl (.flat _ rfl) R)
   .split at hc
    .rename_i a hn;cases hc;cases e2 with
     |flat _ hf=>simp[dO] at hf
     |lP=>exact absurd rfl hn
     |slice a a' n c c' l s1 s2 k1 k2 k3 k4 k5 k6=>
      exact gF.o (.ret (Lib.run_unsafeSliceData_row _ _ _ _ _ _ (by omega)) (.ptr _ _ ⟨s1,s2,l,k1,k2,k3⟩) R)
    .cases hc
  .cases hx
 .rename_i t tr p n;obtain⟨v',u',e1,e2,e3⟩:=hl.two;have hvs:vs'=#[v',u']:=alY (by simpa using e1);have ht0:ts[0]?=some t:=by rw[<-ahP,hts];rfl
  obtain rfl:=e3.int;subst hvs;split at hx
  .rename_i e ht;cases hck:Nat.beq (P.cellsOf e) 1 with
   |false=>rw[hck] at hx;simp[Act.exec] at hx
   |true=>
   have hce:=IT hck;rw[hck] at hx;simp[Act.exec] at hx;split at hx
   .rename_i x h2 hu;cases hx;unfold ah3 at hu;split at hu
    .split at hu
     .rename_i hn;cases hu;subst hn;obtain⟨p',rfl,hp,_⟩:=e2.ac8;obtain rfl:p'=none:=(by cases p'<;>simp_all);refine gF.o (.ret (v':=.string .empty) ?_ .ofStr R);have hmax:IntKind.i64.max=9223372036854775807:=rfl;show (Builtin.unsafeString_ ts ty #[.pointer none,.int .i64 0]).run P w=_;have hdef:Builtin.unsafeString_ ts ty #[.pointer none,.int .i64 0] =
        (do
         let n <-asInt (.int .i64 0)
         let some pt := ts[0]? | stuck "unsafe.String: no argument types"
         if n < 0 then runtimePanic (.error "unsafe.String: len out of range")
         if n>IntKind.i64.max then unsupported (.unsafePointer "String: a length above the largest int")
         if n=0 then pure (.string .empty)
         else runtimePanic (.error "unsafe.String: ptr is nil and len is not zero")) := rfl
      rw[hdef];simp[asInt,asIntOf,hmax,ht0]
     .cases hu
    .rename_i a;obtain⟨a',rfl,ha⟩:=e2.Li;split at hu
     .rename_i c g base e' cs hg hcs;split at hu
      .rename_i hc;obtain⟨n1,n2,hg0,rfl⟩:=hc;split at hu
       .rename_i l hb;cases hu;obtain⟨ll,k1,k2,k3,k4,k5⟩:=R.live _ _ _ _ _ hg;obtain⟨cc,fz,q1,q2,q3⟩:=R.loc _ _ k1;obtain⟨s1,s2,l2,p1,p2,p3⟩:=ha;rw[k1] at p1;cases p1;obtain⟨b1,b2⟩:=DU hb;have hcc:cs=(c.drop a.off).take n.toNat/\a.off+n.toNat<=c.length:=by
         grind [bu]
        have hlen:l.length=n.toNat:=(by grind);have hnn:n=(l.length:Int):=(by omega);rw[hnn];subst k2;refine gF.o ⟨_,_,ι,Pk w ht0 ht hce a' (cells:=cc.size) (by rw[p2];simp[World.shape?,q1]) l (λx=>by grind) (by rw[p3];omega) (by omega) (λj x hx=>?_),?_,R.shut hg hg0 k1 a' p2 _,.refl _⟩
        .obtain⟨m,h1,h2⟩:=b2 j x hx;have hj:j<n.toNat:=(by grind);rw[hcc.1,aop,By hj,al0] at h1;obtain⟨v',y1,y2,y3⟩:=k5 _ _ h1
         grind [y3.int,add_eq,Nat.add_assoc]
        .exact .ofStr
       .cases hu
      .cases hu
     .cases hu
   .cases hx
  .simp[Act.exec] at hx
 .simp[Act.exec] at hx
def Fv {E}{a:Go.Act}(HE:lv P ι E a.tmps){xs:Array Operand}{vs}(hv:E.QW xs.toList=some vs):aW P ι vs (xs.map a.eval).toList:=by
 simpa using L4 HE hv
set_option maxHeartbeats 4000000 in
theorem y8 (R:Rel P W0 ι h w){nm:μ}{E:Env}{o:Oper}{a:Go.Act}(HE:lv P ι E a.tmps){v:ξ}(hx:(yY P nm E o).exec h=some (v,h1)) :
  Re P W0 ι w (execOp a.eval o) v h1:=by
 unfold yY at hx;split at hx
 ·-- move
  rename_i x ho;split at hx
  .rename_i u hu;cases hx;simp[execOp,ho];exact .pure (aK HE hu) R
  .simp[Act.exec] at hx
 .rename_i x ho;split at hx
  .rename_i u hu;cases hx;simp[execOp,ho];exact .pure (aK HE hu) R
  .simp[Act.exec] at hx
 ·-- alloc
  rename_i t ho;split at hx
  .rename_i z hz;simp[Act.exec] at hx;split at hx
   .rename_i b h2 hb;cases hx;simp only[execOp,ho];exact (OS R hz hb).o
   .cases hx
  .simp[Act.exec] at hx
 ·-- box
  rename_i t x ho;split at hx
  .rename_i u hu;simp[Act.exec] at hx;split at hx
   .rename_i b h2 hb;cases hx;simp only[execOp,ho];exact (VN R (aK HE hu) hb).o
   .cases hx
  .simp[Act.exec] at hx
 ·-- build
  rename_i t parts ho;split at hx
  .rename_i vs hvs;simp only[execOp,ho];refine (Nj R (vs':=parts.map λ(i,x)=>(i,a.eval x)) ?_ hx).o;simpa using vj HE hvs
  .simp[Act.exec] at hx
 ·-- buildSlice
  rename_i t len parts ho;split at hx
  .rename_i vs hvs;simp only[execOp,ho];refine (Fu R (vs':=parts.map λ(i,x)=>(i,a.eval x)) ?_ hx).o;simpa using vj HE hvs
  .simp[Act.exec] at hx
 ·-- load
  rename_i t x ho;split at hx
  .rename_i u hu;obtain⟨ad,rfl,hx⟩:=Ef hx;obtain⟨a',e1,e2⟩:=(aK HE hu).Li;obtain⟨rfl,v',hr,hv⟩:=L5 R e2 hx;simp only[execOp,ho];exact (gF.ret (by simp[Instr.loadAt,e1,Instr.sureAddr,hr]) hv R).o
  .simp[Act.exec] at hx
 ·-- store
  rename_i t x y ho;split at hx
  .rename_i u1 u2 n hu1 hu2 hn;obtain⟨ad,rfl,hx2⟩:=Ef hx;clear hx;have hx:=hx2;clear hx2;split at hx
   .rename_i hc;simp[Act.exec] at hx;split at hx
    .rename_i q h2 hst;cases hx;obtain⟨a',e1,e2⟩:=(aK HE hu1).Li;obtain⟨w',hr,R'⟩:=OW R e2 (aK HE hu2) hn (IT hc) hst;simp only[execOp,ho];exact⟨undef,w',ι,.inr ⟨by simp[Instr.storeAt,e1,Instr.sureAddr,hr],rfl⟩,.tuple _ _ rfl (by simp),R',.refl _⟩
    .cases hx
   .simp[Act.exec] at hx
  .simp[Act.exec] at hx
 ·-- nilCheck
  rename_i x ho;split at hx
  .split at hx
   .rename_i u hu;simp[Act.exec] at hx;split at hx
    .rename_i q0 h2 hn;cases hx;unfold nnF at hn;split at hn
     .rename_i f fs cs;cases hn;have hr:=aK HE hu;generalize hq:a.eval x=q at hr;have hr0:=hr;cases hr with
      |flat _ hf=>simp[dO] at hf
      |func _ _ fs' _ cs'=>
       have he:execOp a.eval o=Pure.pure (.value (.func (.func f) fs' cs')):=(by unfold execOp;rw[ho];dsimp;rw[hq]);rw[he];exact .pure hr0 R
     .cases hn
    .cases hx
   .simp[Act.exec] at hx
  .split at hx
   .rename_i p hu;simp[Act.exec] at hx;split at hx
    .rename_i ad h2 hn;cases hx;unfold nn at hn;split at hn
     .cases hn;obtain⟨a',e1,e2⟩:=(aK HE hu).Li;have he:execOp a.eval o=Pure.pure (.value (.pointer (some a'))):=(by unfold execOp;rw[ho];dsimp;rw[e1]);rw[he];exact .pure (.ptr _ _ e2) R
     .cases hn
    .cases hx
   .simp[Act.exec] at hx
 ·-- binOp
  rename_i op t x y yt ho;split at hx
  .rename_i u1 u2 hu1 hu2;split at hx
   .rename_i hn;simp only[execOp,ho];split at hx
    .rename_i a b hp;obtain⟨rfl,rfl⟩:u1=.pointer a/\u2=.pointer b:=by
      unfold ami at hp;split at hp<;>simp_all
     split at hx
     .rename_i e hd;split at hx
      .rename_i n hs;exact (O0 R (aK HE hu1) (aK HE hu2) hd hs hx).o
      .simp[Act.exec] at hx
     .simp[Act.exec] at hx
    .exact (Rf R (aK HE hu1) (aK HE hu2) (Rp hn) hx).o
   .simp[Act.exec] at hx
  .simp[Act.exec] at hx
 ·-- unOp
  rename_i op t x ho;split at hx
  .rename_i u hu;simp only[execOp,ho];exact (VR R (aK HE hu) hx).o
  .simp[Act.exec] at hx
 ·-- convert
  rename_i s d x ho;split at hx
  .rename_i u hu;simp only[execOp,ho];exact (Pl R (aK HE hu) hx).o
  .simp[Act.exec] at hx
 ·-- makeInterface
  rename_i t x ho;split at hx
  .simp[Act.exec] at hx
  .rename_i u d hu hni hd;cases hx;simp only[execOp,ho];refine (gF.ret ?_ (.iface _ _ _ (aK HE ‹E.ev x=some u›)) R).o;cases d<;>first|(exact absurd rfl (hu _))|(exact absurd rfl (hni _))|simp[Instr.makeInterface,aI hd]
  .simp[Act.exec] at hx
 ·-- makeFunc
  rename_i fn fs cs ho;split at hx
  .rename_i f c hf hc;cases hx;simp only[execOp,ho];have r1:=Fv HE hf;have r2:=Fv HE hc;refine (gF.ret rfl ?_ R).o;exact .func _ _ _ _ _ (by simpa using r1.1) (λi u u' x y=>r1.2 i u u' (by simpa using x) (by simpa using y)) (by simpa using r2.1) (λi u u' x y=>r2.2 i u u' (by simpa using x) (by simpa using y))
  .simp[Act.exec] at hx
 ·-- makeSlice
  rename_i t l c ho;split at hx
  .rename_i e kn n km m ht hl hc;split at hx
   .rename_i z hz hb;have hb:=ah5 hb;obtain⟨_,_,hsz,i,hi,_⟩:=fE hz;rw[hi] at hb;simp[Act.exec] at hx;split at hx
    .rename_i r h2 hmk;cases hx;simp only[execOp,ho,(aK HE hl).int,(aK HE hc).int];exact (VT R ht hz hi hb hmk).o
    .cases hx
   .simp[Act.exec] at hx
  .simp[Act.exec] at hx
 ·-- slice
  rename_i t x lo hi mx ho;split at hx
  .rename_i u l hh m h1 h2 h3 h4;simp only[execOp,ho];exact (Nk R (aK HE h1) (Eg HE h2) (Eg HE h3) (Eg HE h4) hx).o
  .simp[Act.exec] at hx
 ·-- fieldAddr
  rename_i s x f ho;split at hx
  .rename_i fs u hs hu;split at hx
   .rename_i fd hfd;split at hx
    .rename_i n hn;split at hx
     .simp[Act.exec] at hx
     .rename_i hn0;obtain⟨ad,rfl,hx⟩:=Ef hx;cases hx;obtain⟨a',e1,e2⟩:=(aK HE hu).Li;simp only[execOp,ho];refine (gF.ret ?_ (.ptr _ _ (rO.plus e2 _)) R).o;have hn1:n≠0:=λx=>(by subst x;simp at hn0);simp[Instr.fieldAt,aI hs,hfd,e1,Instr.sureAddr,fieldPlace,lQ hn,hn1]
    .simp[Act.exec] at hx
   .simp[Act.exec] at hx
  .simp[Act.exec] at hx
 ·-- field
  rename_i s x f ho;split at hx
  .rename_i fs cs hs hu;split at hx
   .rename_i fd hfd;split at hx
    .rename_i d n hd hn;have hr:=aK HE hu;generalize hq:a.eval x=q at hr;cases hr with
     |flat _ hf=>simp[dO] at hf
     |agg _ cs' hsz hcs=>
      split at hx
      .rename_i hag;cases hx;simp only[execOp,ho];refine (gF.ret (v':=.agg (cs'.extract fd.offset (fd.offset+n))) ?_ ?_ R).o
       .simp[Instr.field,aI hs,hfd,hq,asAgg,part,uA hd,hag,lQ hn]
       .refine .agg _ _ (by simp;omega) (λi u u' p q=>?_)
        grind
      .rename_i hag;split at hx
       .rename_i u hu2;cases hx;have hlt:=(List.getElem?_eq_some_iff.1 hu2).1;have hlt':fd.offset<cs'.size:=(by simp at hlt;omega);simp only[execOp,ho];refine (gF.ret (v':=cs'[fd.offset]) ?_ (hcs fd.offset _ _ (by simpa using hu2) (by simp[hlt'])) R).o;simp[Instr.field,aI hs,hfd,hq,asAgg,part,uA hd,hag,hlt']
       .simp[Act.exec] at hx
    .simp[Act.exec] at hx
   .simp[Act.exec] at hx
  .simp[Act.exec] at hx
 ·-- indexAddr
  rename_i t x i ho;split at hx
  .rename_i e ad n c k j ht hu hj;split at hx
   .rename_i z hz;simp[Act.exec] at hx;split at hx
    .rename_i r h2 hix;cases hx;simp only[execOp,ho,(aK HE hj).int];exact (Rh R ht hz (aK HE hu) hix).o
    .cases hx
   .simp[Act.exec] at hx
  .rename_i n e ad k j ht hu hj;split at hx
   .rename_i z hz;simp only[Act.exec] at hx;split at hx
    .rename_i q h2 hck;cases hx;obtain⟨hb,rfl⟩:=BA hck;obtain⟨a',e1,e2⟩:=(aK HE hu).Li;simp only[execOp,ho,(aK HE hj).int,e1];exact (Nc R ht hz e2 (anl hb)).o
    .cases hx
   .simp[Act.exec] at hx
  .simp[Act.exec] at hx
 ·-- index
  rename_i t x i ho;split at hx
  .rename_i s k j ht hu hj;simp[Act.exec] at hx;split at hx
   .rename_i b h2 hix;cases hx;simp only[execOp,ho,(aK HE hj).int,(aK HE hu).str];exact (Ri R ht hix).o
   .cases hx
  .rename_i n e cs k j ht hu hj;split at hx
   .rename_i d hd hz;split at hx
    .rename_i l hag hl;simp[Act.exec] at hx;split at hx
     .rename_i y h2 hix;cases hx;unfold MV at hix;split at hix
      case isFalse=>cases hix
      rename_i hb;split at hix
      case h_2=>cases hix
      rename_i v hv;split at hix
      case h_2=>cases hix
      rename_i y' hun;cases hix;have hpk:=vA hun;subst hpk;have hr:=aK HE hu;generalize hq:a.eval x=q at hr;cases hr with
      |flat _ hf=>simp[dO] at hf
      |agg _ cs' hsz hcs=>
       have hlt:=(List.getElem?_eq_some_iff.1 hv).1;have hlt':j.toNat<cs'.size:=(by simp at hlt;omega);simp only[execOp,ho,(aK HE hj).int,hq];refine (gF.ret (v':=cs'[j.toNat]) ?_ (hcs j.toNat _ _ (by simpa using hv) (by simp[hlt'])) R).o;simp[Instr.index,asIntOf,aI ht,hb,part,uA hd,hag,lQ hz,hlt']
     .cases hx
    .simp[Act.exec] at hx
   .simp[Act.exec] at hx
  .simp[Act.exec] at hx
 ·-- makeMap
  rename_i t r ho;have mk:∀(k:κ) (m:Nat) (h2:ai) (s:Sem ξ),Bs k h=some (m,h2)->(∀w,s.run P w=.ok (.map (some w.heap.size)) { w with heap:=w.heap.push (.map #[] 0) })->gF P W0 ι w s (.map (some m)) h2:=by
   intro k m h2 s hn hs;obtain⟨ι',hle,hm,R'⟩:=Pe R hn;exact⟨_,_,ι',hs w,.map _ _ hm,R',hle⟩
  have Mi:∀(b:Nat) (k:κ) (m:Nat) (h2:ai) (s:Sem ξ),sP b k h=some (m,h2)->(∀w,s.run P w=.ok (.map (some w.heap.size)) { w with heap:=w.heap.push (.map #[] 0) })->gF P W0 ι w s (.map (some m)) h2:=by
   intro b k m h2 s hn hs;obtain⟨ι',hle,hm,R'⟩:=Lk R hn;exact⟨_,_,ι',hs w,.map _ _ hm,R',hle⟩
  split at hx
  .rename_i k e ht hr;split at hx
   .have:r=none:=by
     cases r with
     |none=>rfl
     |some x=>grind [H7]
    subst this;cases nm with
    |none=>
     simp[Act.exec] at hx;split at hx
     .rename_i m h2 hn;cases hx;simp only[execOp,ho];exact (mk _ _ _ _ hn λw=>by simp[Instr.makeMap]).o
     .cases hx
    |some b=>
     simp[Act.exec] at hx;split at hx
     .rename_i m h2 hn;cases hx;simp only[execOp,ho];exact (Mi _ _ _ _ _ hn λw=>by simp[Instr.makeMap]).o
     .cases hx
   .simp[Act.exec] at hx
  .rename_i k e kk nn ht hr;split at hx
   .obtain⟨x,hx1,hx2⟩:∃x,r=some x/\E.ev x=some (.int kk nn):=by
     cases r with
     |none=>cases hr
     |some x=>
      grind [H7]
    subst hx1;cases nm with
    |none=>
     simp[Act.exec] at hx;split at hx
     .rename_i m h2 hn;cases hx;simp only[execOp,ho];exact (mk _ _ _ _ hn λw=>by simp[Instr.makeMap,(aK HE hx2).int,aI ht,asInt,asIntOf]).o
     .cases hx
    |some b=>
     simp[Act.exec] at hx;split at hx
     .rename_i m h2 hn;cases hx;simp only[execOp,ho];exact (Mi _ _ _ _ _ hn λw=>by simp[Instr.makeMap,(aK HE hx2).int,aI ht,asInt,asIntOf]).o
     .cases hx
   .simp[Act.exec] at hx
  .simp[Act.exec] at hx
 ·-- lookup
  rename_i t x i ok ho;split at hx
  .rename_i k e m kv ht hu hi;split at hx
   .rename_i T zv hk hT hz;split at hx
    .rename_i z huz;simp[Act.exec] at hx;split at hx
     .rename_i r h2 hg;cases hx;simp only[execOp,ho];exact (Nh R ht (aK HE hu) hk (aK HE hi) hz huz hg).o
     .cases hx
    .simp[Act.exec] at hx
   .simp[Act.exec] at hx
  .simp[Act.exec] at hx
 ·-- mapEntry
  rename_i t x i ho;split at hx
  .rename_i k e m kv ht hu hi;split at hx
   .rename_i T zv hk hT hz;split at hx
    .rename_i z huz;simp[Act.exec] at hx;split at hx
     .rename_i r h2 hg;cases hx;simp only[execOp,ho];exact (Jv R ht (aK HE hu) hk (aK HE hi) hz huz hg).o
     .cases hx
    .simp[Act.exec] at hx
   .simp[Act.exec] at hx
  .simp[Act.exec] at hx
 ·-- entryStore
  rename_i t x i y ho;split at hx
  .rename_i m kk st u hu hi hy;simp[Act.exec] at hx;split at hx
   .rename_i r h2 hg;cases hx;obtain⟨w',hr,R'⟩:=GQ (t:=t) (kk:=kk) R (aK HE hu) (aK HE hy) hg;simp only[execOp,ho,(aK HE hi).int];exact⟨undef,w',ι,.inr ⟨by simp[hr],rfl⟩,.tuple _ _ rfl (by simp),R',.refl _⟩
   .cases hx
  .simp[Act.exec] at hx
 ·-- mapUpdate
  rename_i t x i y ho;split at hx
  .rename_i k e m kv u ht hu hi hy;split at hx
   .rename_i hk;simp[Act.exec] at hx;split at hx
    .rename_i r h2 hg;cases hx;obtain⟨w',hr,R'⟩:=AK R ht (aK HE hu) hk (aK HE hi) (aK HE hy) hg;simp only[execOp,ho];exact⟨undef,w',ι,.inr ⟨by simp[hr],rfl⟩,.tuple _ _ rfl (by simp),R',.refl _⟩
    .cases hx
   .simp[Act.exec] at hx
  .simp[Act.exec] at hx
 ·-- insert
  rename_i t x i y ho;split at hx
  .rename_i k e m kv u ht hu hi hy;split at hx
   .rename_i hk;simp[Act.exec] at hx;split at hx
    .rename_i r h2 hg;cases hx;obtain⟨w',hr,R'⟩:=AK R ht (aK HE hu) hk (aK HE hi) (aK HE hy) hg;simp only[execOp,ho];exact⟨undef,w',ι,.inr ⟨by simp[hr],rfl⟩,.tuple _ _ rfl (by simp),R',.refl _⟩
    .cases hx
   .simp[Act.exec] at hx
  .simp[Act.exec] at hx
 ·-- extract
  rename_i x i ho;split at hx
  .rename_i vs hu;split at hx
   .rename_i u hu2;cases hx;have hr:=aK HE hu;generalize hq:a.eval x=q at hr;cases hr with
    |flat _ hf=>simp[dO] at hf
    |tuple _ vs' hsz hcs=>
     have hlt:=(List.getElem?_eq_some_iff.1 hu2).1;have hlt':i<vs'.size:=(by simp at hlt;omega);simp only[execOp,ho];exact (gF.ret (v':=vs'[i]) (by simp[Instr.extract,hq,hlt']) (hcs i _ _ (by simpa using hu2) (by simp[hlt'])) R).o
   .simp[Act.exec] at hx
  .simp[Act.exec] at hx
 ·-- builtins
  rename_i c ho;split at hx
  .rename_i b vs hb hvs;simp[execOp,ho];simp[resolve,hb,pure_bind,invoke];exact Jy R (Fv HE hvs) hx
  .simp[Act.exec] at hx
 .simp[Act.exec] at hx
end Go.Ago
