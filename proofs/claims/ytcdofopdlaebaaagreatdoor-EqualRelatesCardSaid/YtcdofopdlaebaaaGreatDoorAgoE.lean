
import Derived.Test.YtcdofopdlaebaaaGreatDoorAgoM
namespace Go.Ago
open Go
variable {P:Program}{W0:Fz}{ι ι':fM}{h h' h1:af}{w w':World}
theorem Kv (vs:List Value):∀(cs:Array Value) (off k:Nat),off+k+vs.length<=cs.size ->
  ((vs.zipIdx k).foldl (λ(cs:Array Value) (p:Value×Nat)=>cs.setIfInBounds (off+p.2) p.1) cs).toList=aY cs.toList (off+k) vs:=by
 induction vs with
 |nil=>intro cs off k _;simp[aY]
 |cons v r ih=>
  intro cs off k hk;simp only[OF] at hk;rw[List.zipIdx_cons,List.foldl_cons,ih _ off (k+1) (by simp;omega)];apply agu;intro i;have hl1:off+(k+1)+r.length<=(cs.setIfInBounds (off+k) v).toList.length:=by simp;omega
  have hl2:off+k+(v::r).length<=cs.toList.length:=by simp;omega
  rw[qM _ _ _ _ hl1,qM _ _ _ _ hl2];simp only[OF,agO];by_cases h1:i<off+k
  .rw[if_pos (by omega),if_pos h1,agv];rw[if_neg (by omega)]
  .rw[if_neg h1];by_cases h2:i=off+k
   .subst h2;rw[if_pos (by omega),if_pos (by omega)];have:off+k<cs.size:=(by omega);simp[this]
   .rw[if_neg (by omega)];by_cases h3:i<off+k+(r.length+1)
    .rw[if_pos (by omega),if_pos h3];have:i-(off+k)=(i-(off+(k+1)))+1:=(by omega);rw[this,afz]
    .rw[if_neg (by omega),if_neg h3,agv,if_neg (by omega)]
theorem Hx (vs:Array Value)(cs:Array Value)(off:Nat) :
  (vs.zipIdx.foldl (λ(cs:Array Value) (x:Value×Nat)=>cs.setIfInBounds (off+x.2) x.1) cs)=((vs.toList.zipIdx 0).foldl (λ(cs:Array Value) (p:Value×Nat)=>cs.setIfInBounds (off+p.2) p.1) cs):=by
 rw[<-Array.foldl_toList];simp
def Kw (P:Program)(ι:fM)(l l':List (Nat×Value)):Prop:=l.length=l'.length/\∀(i:Nat) (a b:Nat×Value),l[i]?=some a->l'[i]?=some b->a.1=b.1/\aS P ι a.2 b.2
theorem tK (place:Nat->Option (Nat×Nat)):∀(ps ps':List (Nat×Value)) (cs cs':List Value),Kw P ι ps ps'->bA P ι cs cs'->∀r,xk place cs ps=some r ->
  ∃r',Instr.fill place cs'.toArray ps'=some r'.toArray/\bA P ι r r'
 |[],ps',cs,cs',hp,hl,r,hf=>by
  have:ps'=[]:=abn hp.1.symm;subst this;simp[xk] at hf;subst hf;exact⟨cs',by simp[Instr.fill],hl⟩
 |(i,v)::ps,ps',cs,cs',hp,hl,r,hf=>by
  cases ps' with
  |nil=>simp[Kw] at hp
  |cons q ps'=>
   obtain⟨i',v'⟩:=q;have h0:=hp.2 0 (i,v) (i',v') rfl rfl;simp only at h0;obtain⟨rfl,hv⟩:=h0;have hp':Kw P ι ps ps':=⟨by have:=hp.1;simpa using this,λj a b x y=>hp.2 (j+1) a b (by simpa using x) (by simpa using y)⟩;simp only[xk] at hf;split at hf
   .cases hf
   .rename_i off size hpl;split at hf
    .rename_i hc;simp only[IT] at hc;have c1:=BY hc.1;have c2:=adA hc.2;have hcs:=hv.cells;have hsz:v'.cells.size=v.cells.size:=(by have:=hcs.1;simpa using this.symm);have hlen:=hl.1;have hfit:off+v'.cells.toList.length<=cs'.toArray.size:=(by simp;omega);obtain⟨r',e1,e2⟩:=tK place ps ps' _ (aY cs' off v'.cells.toList) hp' (hl.aY hcs off) r hf;refine⟨r',?_,e2⟩;simp only[Instr.fill,hpl];rw[if_neg (by simp;omega)];rw[Hx];have:=Kv v'.cells.toList cs'.toArray off 0 (by simpa using hfit);simp only[afs] at this;rw[<-afI (xs:=List.foldl _ _ _),this];exact e1
    .cases hf
theorem Ay (place:Nat->Option (Nat×Nat)):∀(ps:List (Nat×Value)) (cs r:List Value),xk place cs ps=some r->r.length=cs.length
 |[],cs,r,hf=>by simp[xk] at hf;subst hf;rfl
 |(i,v)::ps,cs,r,hf=>by
  simp only[xk] at hf;split at hf
  .cases hf
  .split at hf
   .rename_i hc;simp only[IT] at hc;have c2:=adA hc.2;rw[Ay place ps _ r hf,mz _ _ _ (by simpa using c2)]
   .cases hf
theorem rG {E:Env}{a:Go.Act}(HE:iN P ι E a.tmps):∀{xs:List (Nat×Operand)} {vs:List (Nat×Value)},partsOf E xs=some vs->Kw P ι vs (xs.map λ(i,x)=>(i,a.eval x))
 |[],vs,hv=>by simp[partsOf] at hv;subst hv;exact⟨rfl,by simp⟩
 |(i,x)::xs,vs,hv=>by
  simp only[partsOf] at hv;split at hv
  .rename_i v vs' h1 h2;cases hv;have ih:=rG HE h2;refine⟨by simp[ih.1],λj b c p q=>?_⟩;cases j with
   |zero=>simp at p q;subst p;subst q;exact⟨rfl,aQ HE h1⟩
   |succ j=>exact ih.2 j b c (by simpa using p) (by simpa using q)
  .cases hv
theorem Et:∀(fs:List Field) (pl:List (Nat×Nat)) (w:World),placesOf P fs=some pl ->
  (fs.mapM λf=>(do pure (f.offset,<-sizeOf f.type):Sem (Nat×Nat))).run P w=.ok pl w
 |[],pl,w,hp=>by simp[placesOf] at hp;subst hp;simp
 |f::fs,pl,w,hp=>by
  simp only[placesOf] at hp;split at hp
  .rename_i n l h1 h2;cases hp;have ih:=Et fs l w h2;simp[ag4,iO h1];simp at ih;simp[ih]
  .cases hp
theorem Hy (R:Rel P W0 ι h w){t:TypeId}{vs:List (Nat×Value)}{vs':Array (Nat×Value)}(hp:Kw P ι vs vs'.toList){v:Value}(hx:(Hj P t vs).exec h=some (v,h1)) :
  fC P W0 ι w (Instr.build t vs') v h1:=by
 unfold Hj at hx;split at hx
 .rename_i fs z ht hz;obtain⟨hzf,hz1,_⟩:=gE hz;split at hx
  .rename_i pl hpl;split at hx
   .rename_i cs hcs;cases hx;obtain⟨r',e1,e2⟩:=tK (λi=>pl[i]?) vs vs'.toList _ _ hp (bA.flat (P:=P) (ι:=ι) hzf) _ hcs;refine .ret (v':=.agg r'.toArray) ?_ (.agg _ _ (by simpa using e2.1) λi u u' x y=>e2.2 i u u' (by simpa using x) (by simpa using y)) R;have hm:(fs.mapM λf=>(do pure (f.offset,<-sizeOf f.type):Sem (Nat×Nat))).run P w=.ok pl.toArray w:=by
     rw[Array.mapM_eq_mapM_toList];have:=Et fs.toList pl w hpl;simp at this;simp[this]
    simp[Instr.build,hz1,aL ht];simp at hm e1;simp[hm,e1]
   .simp[Act.exec] at hx
  .simp[Act.exec] at hx
 .rename_i len e z ht hz;obtain⟨hzf,hz1,_⟩:=gE hz;split at hx
  .rename_i n hn;split at hx
   .rename_i cs hcs;cases hx;obtain⟨r',e1,e2⟩:=tK (λi=>some (i*n,n)) vs vs'.toList _ _ hp (bA.flat (P:=P) (ι:=ι) hzf) _ hcs;refine .ret (v':=.agg r'.toArray) ?_ (.agg _ _ (by simpa using e2.1) λi u u' x y=>e2.2 i u u' (by simpa using x) (by simpa using y)) R;simp at e1;simp[Instr.build,hz1,aL ht,iO hn,e1]
   .simp[Act.exec] at hx
  .simp[Act.exec] at hx
 .simp[Act.exec] at hx
theorem Az (R:Rel P W0 ι h w){nm:Option Nat}{t:TypeId}{len:Nat}{vs:List (Nat×Value)}{vs':Array (Nat×Value)}(hp:Kw P ι vs vs'.toList){v:Value}(hx:(rQ P nm t len vs).exec h=some (v,h1)) :
  fC P W0 ι w (Instr.buildSlice t len vs') v h1:=by
 unfold rQ at hx;split at hx
 .rename_i e ht;split at hx
  .rename_i n z hn hz;obtain⟨hzf,hz1,hz2,_⟩:=gE hz;have hnz:n=z.cells.size:=by rw[hz2] at hn;cases hn;rfl
   split at hx
   .rename_i cs hle hcs;simp only[Act.exec] at hx;split at hx
    .rename_i b h2 hb;cases hx;have hle:=adA hle;have hzl:(List.replicate len z.cells.toList).flatten.all cX=true:=by
      rw[adx];intro v hv;rw[afL] at hv;obtain⟨q,q1,q2⟩:=hv;rw[adt q1] at q2;exact List.all_eq_true.1 hzf v q2
     obtain⟨r',e1,e2⟩:=tK (λi=>some (i*n,n)) vs vs'.toList _ _ hp (bA.flat (P:=P) (ι:=ι) hzl) _ hcs;have fin:∀(q next':Nat),h.used q=false->q<next'/\h.next<=next'->cs.all eQ=true ->
       fC P W0 ι w (Instr.buildSlice t len vs') (.slice (some ⟨q,0,none⟩) len (len+1)) (h.dQ q next' e cs):=by
      intro q next' k1 k2 hsc
      obtain⟨ι',hle',hnew,R'⟩:=R.put q next' k1 k2 e cs r' [] (0,0) (by intro o _;simp) e2 (List.all_eq_true.1 hsc)
      rw[adG] at R';have hlen:=Ay _ _ _ _ hcs;refine⟨.slice (some ⟨w.heap.size,0,none⟩) len len,{ w with heap:=w.heap.push (.cells r'.toArray e) },ι',?_,?_,R',hle'⟩
      .have hno:¬(16777216<len*n):=(by omega);simp only[Instr.buildSlice,Sem.run_bind,aL ht,Result.andThen_ok,iO hn,show (2:Nat)^24=16777216 from rfl,gt_iff_lt,hno,if_false,Sem.run_pure];by_cases h0:len*n=0
       .have e0:(List.replicate len z.cells.toList).flatten=[]:=abn (by simpa[<-hnz] using h0);have hmk:(Array.range (len*n)).map (λj=>(#[]:Array Value)[j%(#[]:Array Value).size]!)=(List.replicate len z.cells.toList).flatten.toArray:=by
         rw[e0,h0,Array.range_zero'];simp
        rw[if_pos h0];simp only[Sem.run_bind,Sem.run_pure,Result.andThen_ok,hmk,e1,newRow,run_newObj]
       .have hmk:(Array.range (len*n)).map (λj=>z.cells[j%z.cells.size]!)=(List.replicate len z.cells.toList).flatten.toArray:=by
         rw[hnz];exact vL z.cells len (by rcases agK z.cells.size with x|x;(rw[hnz,x] at h0;simp at h0);exact .inl x)
        rw[if_neg h0];simp only[Sem.run_bind,hz1,Sem.run_pure,Result.andThen_ok,hmk,e1,newRow,run_newObj]
      .refine .slice _ _ _ _ _ _ rfl rfl hnew rfl rfl (aaR _) (.inr rfl) (λ_ _=>?_);have:r'.length=len*n:=(by rw[<-e2.1,hlen];simp[hnz]);simp[Ej hn,this]
     unfold aO at hb;split at hb
     .rename_i hsc;cases nm with
      |none=>cases hb;exact fin _ _ R.unused ⟨by omega,by omega⟩ hsc
      |some k=>
       simp only at hb;split at hb
       .rename_i hk;cases hb;exact fin _ _ hk.1 ⟨hk.2.1,aaR _⟩ hsc
       .cases hb
     .cases hb
    .cases hx
   .simp[Act.exec] at hx
  .simp[Act.exec] at hx
 .simp[Act.exec] at hx
theorem Eu {t:TypeId}{len:Nat}{vs:List (Nat×Value)}{vs':Array (Nat×Value)}(hp:Kw P ι vs vs'.toList){cs:List Value}(hx:Av P t len vs=some cs) :
  (∀v∈cs,eQ v=true)/\∃e r',bA P ι cs r'/\∀w,(Instr.buildSlice t len vs').run P w=.ok (.slice (some ⟨w.heap.size,0,none⟩) len len) { w with heap:=w.heap.push (.cells r'.toArray e) }:=by
 unfold Av at hx;split at hx
 .rename_i e ht;split at hx
  .rename_i n z hn hz;obtain⟨hzf,hz1,hz2,_⟩:=gE hz;have hnz:n=z.cells.size:=by rw[hz2] at hn;cases hn;rfl
   split at hx
   .rename_i cs0 hle hcs;split at hx
    .rename_i hsc;cases hx;have hle:=adA hle;have hzl:(List.replicate len z.cells.toList).flatten.all cX=true:=by
      rw[adx];intro v hv;rw[afL] at hv;obtain⟨q,q1,q2⟩:=hv;rw[adt q1] at q2;exact List.all_eq_true.1 hzf v q2
     obtain⟨r',e1,e2⟩:=tK (λi=>some (i*n,n)) vs vs'.toList _ _ hp (bA.flat (P:=P) (ι:=ι) hzl) _ hcs;refine⟨List.all_eq_true.1 hsc,e,r',e2,λw=>?_⟩;have hno:¬(16777216<len*n):=(by omega);simp only[Instr.buildSlice,Sem.run_bind,aL ht,Result.andThen_ok,iO hn,show (2:Nat)^24=16777216 from rfl,gt_iff_lt,hno,if_false,Sem.run_pure];by_cases h0:len*n=0
     .have e0:(List.replicate len z.cells.toList).flatten=[]:=abn (by simpa[<-hnz] using h0);have hmk:(Array.range (len*n)).map (λj=>(#[]:Array Value)[j%(#[]:Array Value).size]!)=(List.replicate len z.cells.toList).flatten.toArray:=by
       rw[e0,h0,Array.range_zero'];simp
      rw[if_pos h0];simp only[Sem.run_bind,Sem.run_pure,Result.andThen_ok,hmk,e1,newRow,run_newObj]
     .have hmk:(Array.range (len*n)).map (λj=>z.cells[j%z.cells.size]!)=(List.replicate len z.cells.toList).flatten.toArray:=by
       rw[hnz];exact vL z.cells len (by rcases agK z.cells.size with x|x;(rw[hnz,x] at h0;simp at h0);exact .inl x)
      rw[if_neg h0];simp only[Sem.run_bind,hz1,Sem.run_pure,Result.andThen_ok,hmk,e1,newRow,run_newObj]
    .cases hx
   .cases hx
  .cases hx
 .cases hx
theorem Xz {strict:Bool}{s:Sl}{sz:Nat}{e:TypeId}{n:Nat}{new:List Value}{r:Sl×af}(hx:app strict s sz e n new h=some r):new.length=n*sz:=by
 replace hx:=Kg hx
 unfold tB at hx;split at hx
 .rename_i hn;subst hn;split at hx
  .split at hx
   .rename_i hc;simp[hc.2.2]
   .cases hx
  .split at hx
   .rename_i hc;simp[hc]
   .cases hx
 .split at hx
  .cases hx
  .rename_i hl;exact (afp λx=>hl x:s.len+n<=cK/\new.length=n*sz).2
theorem Mv {y:Operand}{u:Value}(hn:Ti y u=true):u=.nilIface->∃c,y=.const c:=by
 rintro rfl;cases y<;>simp[Ti] at hn;exact⟨_,rfl⟩
theorem zw {v:Value}{k:Addr->Act}{r:Value×af}(hx:(xl v k).exec h=some r):∃a,v=.pointer (some a)/\(k a).exec h=some r:=by
 unfold xl at hx;split at hx
 .exact⟨_,rfl,hx⟩
 .simp[Act.exec] at hx
theorem TD {e u:TypeId}{cells off:Nat}(hc:P.cellsOf e<=cells)(h1:rowAt P (sameLayout P P.depth · u) P.depth e 1 off 1=true):liesAt P P.depth e (cells/P.cellsOf e) off u 1=true:=by
 have hd:P.depth=(2*(P.types.size+Made.depth)+1)+1:=rfl;generalize hf:(sameLayout P P.depth · u)=fits at h1
 have h2:rowAt P fits P.depth e (cells/P.cellsOf e) off 1=true:=by
  rw[hd] at h1⊢;simp only[rowAt] at h1⊢;split at h1
  .cases h1
  .rename_i hs;rw[if_neg hs];have hp:1<=cells/P.cellsOf e:=by
    rw[Nat.le_div_iff_mul_le (by omega)];omega
   simp only[afR,IT,decide_eq_true_eq] at h1⊢;rcases h1 with h1|h1
   .exact .inl ⟨⟨h1.1.1,by omega⟩,h1.2⟩
   .exact .inr ⟨by omega,h1.2⟩
 have h3:∀d,P.depth=d+1->liesAt P (d+1) e (cells/P.cellsOf e) off u 1=true:=λd hdd=>by
  simp only[liesAt,afR];left;rw[hf];exact h2
 rw[hd];exact h3 _ hd
theorem Rel.shut (R:Rel P W0 ι h w){b:Nat}{c:List Value}{g base:Nat}{e:TypeId}(hb:h.get b=some (.cells c g base e))(hg:g≠0){l:Loc}(hl:ι b=some l)(a:Addr)(ha:a.block=l.ar)(n:Nat) :
  Rel P W0 ι (h.shut g) (w.freeze a n):=by
 obtain⟨l0,e1,e2,e3,e4,e5⟩:=R.live b c g base e hb;rw[hl] at e1;cases e1;obtain⟨cc,fz,hh,q1,q2⟩:=R.loc b l hl;have hro:l.ro=false:=by cases hr:l.ro with|false=>rfl|true=>exact absurd (e3.1.2 hr) hg
 have hne:∀i,i≠l.ar->(w.freeze a n).heap[i]?=w.heap[i]?:=λi hi=>by
  unfold World.freeze;split
  .rfl
  .simp only[afU];rw[if_neg (by rw[ha];exact λx=>hi x.symm)]
 have heq:∃f2,(w.freeze a n).heap[l.ar]?=some (.cells cc l.elem f2):=by
  unfold World.freeze;split
  .exact⟨fz,hh⟩
  .simp only[afU];rw[if_pos ha,hh];exact⟨_,rfl⟩
 have hget:∀j c1 g1 ba1 e1,(h.shut g).get j=some (.cells c1 g1 ba1 e1)->h.get j=some (.cells c1 g1 ba1 e1)/\g1≠g:=by
  intro j c1 g1 ba1 e1 hj
  replace hj:(match h.get j with
   |some (.cells c' g' base' e')=>cond (Nat.beq g' g) none (some (.cells c' g' base' e'))
   |o=>o)=some (.cells c1 g1 ba1 e1):=hj
  split at hj
  .rename_i hq;rw[cQ] at hj;split at hj
   .cases hj
   .rename_i hgg;cases hj;exact⟨hq,hgg⟩
  .rename_i o hq;exact absurd hj (hq _ _ _ _)
 have hoff:∀j c1 g1 ba1 e1 l1,(h.shut g).get j=some (.cells c1 g1 ba1 e1)->ι j=some l1->l1.ar≠l.ar:=by
  intro j c1 g1 ba1 e1 l1 hj hl1 hbl;obtain⟨h1,h2⟩:=hget _ _ _ _ _ hj;exact h2 (R.dW b j l l1 _ _ _ _ _ _ _ _ hl hl1 hro hb h1 hbl.symm).1.symm
 have hos:(w.freeze a n).os=w.os/\(w.freeze a n).output=w.output:=by unfold World.freeze;split<;>exact⟨rfl,rfl⟩
 refine⟨λi o hi=>?_,λb hb=>⟨?_,(R.xh b hb).2⟩,R.nx,λb1 l1 hl1=>?_,λb1 c1 g1 ba1 e1' hb1=>?_,λb1 b2 l1 l2 c1 g1 ba1 e1' c2 g2 ba2 e2' h1 h2 h3 h4 h5 h6=>?_,λb1 c1 g1 ba1 e1' hb1 hg1=>?_,⟨hos.1.trans R.os.1,hos.2.trans R.os.2⟩,R.Ei,R.mp.FW rfl (λ_ x=>x) (.refl _) rfl λr es c hr=>?_⟩
 .rw[hne i (λx=>by rw[x,(q2 hro).1] at hi;cases hi)];exact R.nr i o hi
 .show (match h.get b with
   |some (.cells c' g' base' e')=>cond (Nat.beq g' g) none (some (.cells c' g' base' e'))
   |o=>o)=none
  rw[(R.xh b hb).1]
 .obtain⟨cc1,fz1,k1,k2,k3⟩:=R.loc b1 l1 hl1;by_cases hbl:l1.ar=l.ar
  .obtain⟨f2,h2⟩:=heq;rw[hbl,hh] at k1
   injection abi k1 with x1 x2 x3
   refine⟨cc,f2,by rw[hbl,h2,x2],by rw[x1];exact k2,λx=>⟨(k3 x).1,λhv=>?_⟩⟩;obtain⟨b2,l2,c2,g2,ba2,e2',p1,p2,p3⟩:=hv;exact absurd (p2.trans hbl) (hoff _ _ _ _ _ _ p3 p1)
  .refine⟨cc1,fz1,by rw[hne _ hbl];exact k1,k2,λx=>⟨(k3 x).1,λhv=>(k3 x).2 (hv.of λj c1 g1 ba1 e1 hj=>⟨_,_,_,_,(hget _ _ _ _ _ hj).1⟩)⟩⟩
 .obtain⟨l1,k1,k2,k3,k4,k5⟩:=R.live b1 c1 g1 ba1 e1' (hget _ _ _ _ _ hb1).1;refine⟨l1,k1,k2,k3,k4,λi v hv=>?_⟩;obtain⟨v',x,y⟩:=k5 i v hv;refine⟨v',?_,y⟩;simp only[World.cell?] at x⊢;rw[hne _ (hoff _ _ _ _ _ _ hb1 k1)];exact x
 .exact R.dW b1 b2 l1 l2 c1 g1 ba1 e1' c2 g2 ba2 e2' h1 h2 h3 (hget _ _ _ _ _ h4).1 (hget _ _ _ _ _ h5).1 h6
 .exact R.oi b1 c1 g1 ba1 e1' (hget _ _ _ _ _ hb1).1 hg1
 .rw[hne r (λx=>by rw[x,hh] at hr;cases hr)];exact hr
theorem GM (w:World):∀(l:List UInt8) (a:Addr) (acc:ByteArray),(∀j x,l[j]?=some x->∃m:Int,w.cell? (a.add j)=some (.int .u8 m)/\x=UInt8.ofNat m.toNat) ->
  (loadBytes a acc l.length).run P w=.ok ⟨acc.data++l.toArray⟩ w
 |[],a,acc,_=>by simp[loadBytes]
 |x::l,a,acc,h=>by
  obtain⟨m,h0,hm⟩:=h 0 x rfl;have h0:w.cell? a=some (.int .u8 m):=by simpa[Addr.add] using h0
  have ih:=GM w l (a.add 1) (acc.push x) (λj y hy=>by
   have:=h (j+1) y (by simpa using hy);have e:(a.add 1).add j=a.add (j+1):=by
    unfold Addr.add;by_cases hj:j=0
    .subst hj;simp
    .simp[hj];omega
   rw[e];exact this)
  have hx:m.toNat.toUInt8=x:=hm.symm;simp only[OF,loadBytes,Sem.run_bind,run_load,h0,Result.andThen,hx];rw[ih]
  congr 1
  apply ByteArray.ext;simp[ByteArray.push]
theorem Kx (w:World){ts:Array TypeId}{pt ty e:TypeId}(ht:ts[0]?=some pt)(hp:P.underlying pt=some (.pointer e))(hc:P.cellsOf e=1)(a:Addr){cells:Nat}(hsh:w.shape? a.block=some (e,cells))(l:List UInt8)(h0:l≠[])
  (hn:a.off+l.length<=cells) (h63:l.length<=9223372036854775807) (hcell:∀j x,l[j]?=some x->∃m:Int,w.cell? (a.add j)=some (.int .u8 m)/\x=UInt8.ofNat m.toNat) :
  (Builtin.unsafeString_ ts ty #[.pointer (some a),.int .i64 l.length]).run P w=.ok (.string ⟨l.toArray⟩) (w.freeze a l.length):=by
 have hl:l.length≠0:=by simpa using h0
 have hlb:=GM (P:=P) w l a .empty hcell;have hlies:liesAt P P.depth e (cells/P.cellsOf e) a.off e l.length=true:=by
  have hd:P.depth=(2*(P.types.size+Made.depth)+1)+1:=rfl;rw[hd];simp only[liesAt,afR];left;rw[hd];simp[rowAt,hc,hn,sameLayout,Nat.mod_one]
 have h63':¬(9223372036854775807:Int)<(l.length:Int):=by omega
 have hdef:Builtin.unsafeString_ ts ty #[.pointer (some a),.int .i64 l.length] =
   (do
    let n <-asInt (.int .i64 l.length)
    let some pt:=ts[0]? | stuck "unsafe.String: no argument types"
    if n < 0 then runtimePanic (.error "unsafe.String: len out of range")
    if n>IntKind.i64.max then unsupported (.unsafePointer "String: a length above the largest int")
    if n=0 then pure (.string .empty)
    else if <-variablesAt a (<-elemOf pt) n.toNat then do
     let s <-loadBytes a .empty n.toNat
     freeze a n.toNat
     pure (.string s)
    else unsupported (.unsafePointer "String: not so many bytes at ptr")):=rfl
 rw[hdef];have hmax:IntKind.i64.max=9223372036854775807:=rfl;have hneg:¬(l.length:Int)<0:=by omega
 simp[asInt,asIntOf,hmax,h63',hneg,hl,variablesAt,hsh,elemOf,run_underlying hp,hlies,hlb,ht]
theorem ze:∀{cs:List Value} {l:List UInt8},bytesOf cs=some l->cs.length=l.length/\∀(j:Nat) (x:UInt8),l[j]?=some x->∃n:Int,cs[j]?=some (Value.int .u8 n)/\x=UInt8.ofNat n.toNat
 |[],l,hx=>by cases hx;exact⟨rfl,λj x h=>by simp at h⟩
 |v::r,l,hx=>by
  cases v with
  |int k n=>
   cases k with
   |u8=>
    simp only[bytesOf] at hx;split at hx
    .rename_i l' hl;cases hx;obtain⟨q1,q2⟩:=ze hl;refine⟨by simp[q1],λj x h=>?_⟩;cases j with
     |zero=>simp at h;exact⟨n,by simp,h.symm⟩
     |succ j=>obtain⟨m,h1,h2⟩:=q2 j x (by simpa using h);exact⟨m,by simpa using h1,h2⟩
    .cases hx
   |_=>simp[bytesOf] at hx
  |_=>simp[bytesOf] at hx
theorem OX {p:Option Addr}{k:Addr->Act}{r:Value×af}(hx:(Act.ask Addr (nn p) k).exec h=some r):∃a,p=some a/\(k a).exec h=some r:=by
 cases p with
 |none=>simp[Act.exec,nn] at hx
 |some a=>exact⟨a,rfl,by simpa[Act.exec,nn] using hx⟩
theorem Ky (R:Rel P W0 ι h w){s d:TypeId}{x x' v:Value}(hr:aS P ι x x')(hx:(JX P s d x).exec h=some (v,h1)):fC P W0 ι w (convert s d x') v h1:=by
 unfold JX at hx;split at hx
 .rename_i t a hs hd;split at hx
  .rename_i n hz;obtain⟨i,hi,hsz⟩:=Hn hz;obtain⟨a,e0,hx2⟩:=OX hx;clear hx
   rename _=>hx
   subst e0;obtain⟨a',rfl,ha⟩:=hr.FX;simp only[Act.exec] at hx;split at hx
   .rename_i r h2 hb;cases hx;unfold inB at hb;split at hb
    .rename_i c g base e hg;split at hb
     .rename_i hlt;cases hb;obtain⟨l,k1,k2,k3,k4,k5⟩:=R.live _ _ _ _ _ hg;obtain⟨cc,fz,q1,q2,q3⟩:=R.loc _ _ k1;obtain⟨_,_,l2,p1,p2,p3⟩:=ha;rw[k1] at p1;cases p1;refine .ret (v':=.pointer (some a')) (Lib.run_to_unsafe w a' hs hd hi (by omega) (e:=l.elem) (cells:=cc.size) (by rw[p2];simp[World.shape?,q1]) (by rw[p3];omega)) (.ptr _ _ ⟨by assumption,by assumption,l,k1,p2,p3⟩) R
     .cases hb
    .cases hb
   .cases hx
  .simp[Act.exec] at hx
 .rename_i u a hs hd;split at hx
  .rename_i n hz;obtain⟨i,hi,hsz⟩:=Hn hz;cases hck:(Nat.beq (P.cellsOf u) (n+1)&&rowAt P (sameLayout P P.depth · u) P.depth u 1 0 1) with
   |false=>rw[hck] at hx;simp[Act.exec] at hx
   |true=>
   rw[hck] at hx;rw[IT] at hck;have hcu:=BY hck.1;obtain⟨a,e0,hx2⟩:=OX hx;clear hx
   rename _=>hx
   subst e0;obtain⟨a',rfl,ha⟩:=hr.FX;simp only[Act.exec] at hx;split at hx
   .rename_i r h2 hb;cases hx;unfold atB at hb;split at hb
    .rename_i c g base e hg;split at hb
     .rename_i hlt;cases hb;obtain⟨l,k1,k2,k3,k4,k5⟩:=R.live _ _ _ _ _ hg;obtain⟨cc,fz,q1,q2,q3⟩:=R.loc _ _ k1;obtain⟨s1,s2,l2,p1,p2,p3⟩:=ha;rw[k1] at p1;cases p1;have h0:=k3.2 hlt.1;have hel:l.elem=u:=k2.trans hlt.2.2.1;refine .ret (v':=.pointer (some a')) (Lib.run_from_unsafe w a' hs hd hi (e:=l.elem) (cells:=cc.size) (by rw[p2];simp[World.shape?,q1]) ?_) (.ptr _ _ ⟨s1,s2,l,k1,p2,p3⟩) R;have hle:P.cellsOf u<=cc.size:=(by have:=hlt.2.1;omega);rw[p3,h0,adr,hel,hlt.2.2.2];exact TD hle hck.2
     .cases hb
    .cases hb
   .cases hx
  .simp[Act.exec] at hx
 .rename_i hs hd;cases hx;obtain rfl:=hr.int;exact .ret (by simp[convert,aL hs,aL hd,Conv.intToInt]) .ofInt R
 .rename_i hs hd;cases hx;obtain rfl:=hr.str;exact .ret (by simp[convert,aL hs,aL hd]) .ofStr R
 .rename_i hs hd;cases hx;obtain rfl:=hr.int;exact .ret (by simp[convert,aL hs,aL hd,Conv.intToFloat,Tf]) .yo R
 .rename_i hs hd;cases hx;obtain rfl:=hr.int;exact .ret (by simp[convert,aL hs,aL hd,Conv.intToString]) .ofStr R
 .rename_i hs hd;split at hx
  .rename_i he hsz;simp only[Act.exec] at hx;split at hx
   .rename_i r h2 hb;cases hx;obtain rfl:=hr.str;obtain⟨v',w',ι',q,rest⟩:=En R hsz hb;exact⟨v',w',ι',by simp[convert,aL hs,aL hd,aL he,q],rest⟩
   .cases hx
  .simp[Act.exec] at hx
 .rename_i hs hd;split at hx
  .rename_i he;simp only[Act.exec] at hx;split at hx
   .rename_i r h2 hb;cases hx;obtain⟨v',w',ι',q,rest⟩:=Ki R hr hb;obtain⟨a',c',rfl,_⟩:=hr.slO;exact⟨v',w',ι',by cases a'<;>simp[convert,aL hs,aL hd,aL he,q],rest⟩
   .cases hx
  .simp[Act.exec] at hx
 .simp[Act.exec] at hx
theorem zx {E:Env}{a:Go.Act}(HE:iN P ι E a.tmps){o:Option Operand}{v:Option Value}(hv:CK E o=some v) :
  (∀u,v=some u->∃u',o.map a.eval=some u'/\aS P ι u u')/\(v=none->o.map a.eval=none):=by
 cases o with
 |none=>simp[CK] at hv;subst hv;simp
 |some x=>
  simp only[CK] at hv;split at hv
  .rename_i u hu;cases hv;exact⟨λu2 e=>by cases e;exact⟨_,rfl,aQ HE hu⟩,by simp⟩
  .cases hv
theorem Hz (R:Rel P W0 ι h w) {t:TypeId} {x x' v:Value} {lo hi mx lo' hi' mx' : Option Value} (hr:aS P ι x x')
    (hl:(∀ u,lo=some u→∃ u',lo' = some u' ∧ aS P ι u u')∧(lo=none→lo' = none)) (hh:(∀ u,hi=some u→∃ u',hi' = some u' ∧ aS P ι u u')∧(hi=none→hi' = none))
    (hm:(∀ u,mx=some u→∃ u',mx' = some u' ∧ aS P ι u u')∧(mx=none→mx' = none)) (hx:(Ec P t x lo hi mx).exec h=some (v,h1)) :
    fC P W0 ι w (Instr.sliceAt t x' lo' hi' mx') v h1:=by
  have int1:∀ {o o' : Option Value} {k:IntKind} {n:Int},o=some (.int k n)→((∀ u,o=some u→∃ u',o' = some u' ∧ aS P ι u u')∧(o=none→o' = none))→∃ k,o' = some (.int k n):=by
    intro o o' k n ho hp
    obtain ⟨u',e1,e2⟩:=hp.1 _ ho
    exact ⟨k,by rw [e1,e2.int]⟩
  unfold Ec at hx
  split at hx
  · rename_i ht
    obtain rfl:=hr.str
    obtain rfl:=hm.2 rfl
    split at hx
    all_goals first
      | (simp [Act.exec] at hx;done)
      | (simp only [Act.exec] at hx
         split at hx
         · rename_i r h2 hb;cases hx
           first
           | exact sW R ht (.inr ⟨hl.2 rfl,rfl⟩) (.inr ⟨hh.2 rfl,rfl⟩) hb
           | exact sW R ht (.inl (int1 rfl hl)) (.inr ⟨hh.2 rfl,rfl⟩) hb
           | exact sW R ht (.inr ⟨hl.2 rfl,rfl⟩) (.inl (int1 rfl hh)) hb
           | exact sW R ht (.inl (int1 rfl hl)) (.inl (int1 rfl hh)) hb
         · cases hx)
  · rename_i ht
    obtain rfl:=hm.2 rfl
    split at hx
    · rename_i z hz
      split at hx
      all_goals first
        | (simp [Act.exec] at hx;done)
        | (simp only [Act.exec] at hx
           split at hx
           · rename_i r h2 hb;cases hx
             first
             | exact sX (s:=⟨_,_,_⟩) R ht hz hr (.inr ⟨hl.2 rfl,rfl⟩) (.inr ⟨hh.2 rfl,rfl⟩) hb
             | exact sX (s:=⟨_,_,_⟩) R ht hz hr (.inl (int1 rfl hl)) (.inr ⟨hh.2 rfl,rfl⟩) hb
             | exact sX (s:=⟨_,_,_⟩) R ht hz hr (.inr ⟨hl.2 rfl,rfl⟩) (.inl (int1 rfl hh)) hb
             | exact sX (s:=⟨_,_,_⟩) R ht hz hr (.inl (int1 rfl hl)) (.inl (int1 rfl hh)) hb
           · cases hx)
    · simp [Act.exec] at hx
  · rename_i ht
    obtain rfl:=hm.2 rfl
    split at hx
    · rename_i z hz
      split at hx
      all_goals first
        | (simp [Act.exec] at hx;done)
        | (simp only [Act.exec] at hx
           split at hx
           · rename_i r h2 hb;cases hx
             first
             | exact sY R ht hz hr (.inr ⟨hl.2 rfl,rfl⟩) (.inr ⟨hh.2 rfl,rfl⟩) hb
             | exact sY R ht hz hr (.inl (int1 rfl hl)) (.inr ⟨hh.2 rfl,rfl⟩) hb
             | exact sY R ht hz hr (.inr ⟨hl.2 rfl,rfl⟩) (.inl (int1 rfl hh)) hb
             | exact sY R ht hz hr (.inl (int1 rfl hl)) (.inl (int1 rfl hh)) hb
           · cases hx)
    · simp [Act.exec] at hx
  · rename_i ht
    obtain ⟨km,rfl⟩:=int1 rfl hm
    split at hx
    · rename_i z hz
      split at hx
      all_goals first
        | (simp [Act.exec] at hx;done)
        | (simp only [Act.exec] at hx
           obtain ⟨kh,rfl⟩:=int1 rfl hh
           split at hx
           · rename_i r h2 hb;cases hx
             first
             | exact zb (s:=⟨_,_,_⟩) R ht hz hr (.inr ⟨hl.2 rfl,rfl⟩) hb
             | exact zb (s:=⟨_,_,_⟩) R ht hz hr (.inl (int1 rfl hl)) hb
           · cases hx)
    · simp [Act.exec] at hx
  · simp [Act.exec] at hx
theorem bA.one {v:Value}{l':List Value}(hl:bA P ι [v] l'):∃v',l'=[v']/\aS P ι v v':=by
 obtain⟨v',m,rfl,hv,hm⟩:=hl.cons_inv;have:m=[]:=abn hm.1.symm;subst this;exact⟨v',rfl,hv⟩
theorem bA.two {v u:Value}{l':List Value}(hl:bA P ι [v,u] l'):∃v' u',l'=[v',u']/\aS P ι v v'/\aS P ι u u':=by
 obtain⟨v',m,rfl,hv,hm⟩:=hl.cons_inv;obtain⟨u',rfl,hu⟩:=hm.one;exact⟨v',u',rfl,hv,hu⟩
theorem vN {e:TypeId}{n:Nat}(hs:bS P e=some n):∃i,P.info? e=some i/\i.size=n:=by
 unfold bS at hs;split at hs
 .rename_i i hi;cases hs;exact⟨i,hi,rfl⟩
 .cases hs
theorem Ev (R:Rel P W0 ι h w){strict:Bool}{b:Builtin}{ts:Array TypeId}{ty:TypeId}{cons:Array Bool}{vs:List Value}{vs':Array Value}(hl:bA P ι vs vs'.toList){v:Value}
  (hx:(tC P strict b ts.toList vs).exec h=some (v,h1)):Mq P W0 ι w (builtin b ts ty cons vs') v h1:=by
 generalize hts:ts.toList=tl at hx;unfold tC at hx;split at hx
 .rename_i t tr s;obtain⟨v',e1,e2⟩:=hl.one;have hvs:vs'=#[v']:=adI (by simpa using e1);obtain rfl:=e2.str;have ht0:ts[0]?=some t:=by rw[<-acQ,hts];rfl
  split at hx
  .rename_i ht;cases hx;subst hvs;exact fC.o (.ret (v':=.int .i64 s.size) (by simp[Builtin.len_,ht0,aL ht,goInt]) .ofInt R)
  .simp[Act.exec] at hx
 .rename_i t tr a n c;obtain⟨v',e1,e2⟩:=hl.one;have hvs:vs'=#[v']:=adI (by simpa using e1);obtain⟨a',c',rfl,_⟩:=e2.slO;have ht0:ts[0]?=some t:=by rw[<-acQ,hts];rfl
  split at hx
  .rename_i ht;cases hx;subst hvs;exact fC.o (.ret (v':=.int .i64 n) (by simp[Builtin.len_,ht0,aL ht,goInt]) .ofInt R)
  .simp[Act.exec] at hx
 .rename_i t tr m;obtain⟨v',e1,e2⟩:=hl.one;have hvs:vs'=#[v']:=adI (by simpa using e1);have ht0:ts[0]?=some t:=by rw[<-acQ,hts];rfl
  subst hvs;split at hx
  .rename_i ht;simp only[Act.exec] at hx;split at hx
   .rename_i n h2 hn;cases hx;exact fC.o (Kt R ht0 ht e2 hn)
   .cases hx
  .simp[Act.exec] at hx
 .rename_i t tr m k;obtain⟨v',u',e1,e2,e3⟩:=hl.two;have hvs:vs'=#[v',u']:=adI (by simpa using e1);have ht0:ts[0]?=some t:=by rw[<-acQ,hts];rfl
  subst hvs;split at hx
  .rename_i kt et ht;split at hx
   .rename_i hk;simp only[Act.exec] at hx;split at hx
    .rename_i n h2 hn;cases hx;exact fC.o (Hw R ht0 ht e2 hk e3 hn)
    .cases hx
   .simp[Act.exec] at hx
  .simp[Act.exec] at hx
 .rename_i t t' a n c a' n' c';obtain⟨v',u',e1,e2,e3⟩:=hl.two;have hvs:vs'=#[v',u']:=adI (by simpa using e1);have ht0:ts[0]?=some t:=by rw[<-acQ,hts];rfl
  subst hvs;split at hx
  .rename_i e e' ht ht';split at hx
   .rename_i z hz;simp only[Act.exec] at hx;split at hx
    .rename_i k h2 hn;cases hx;exact fC.o (Ku R ht0 ht hz e2 e3 hn)
    .cases hx
   .simp[Act.exec] at hx
  .simp[Act.exec] at hx
 .rename_i k x k' y;obtain⟨v',u',e1,e2,e3⟩:=hl.two;have hvs:vs'=#[v',u']:=adI (by simpa using e1);obtain rfl:=e2.int;obtain rfl:=e3.int;split at hx
  .cases hx;subst hvs;exact fC.o (.ret (by simp[Builtin.min_,Builtin.min2]) .ofInt R)
  .simp[Act.exec] at hx
 .rename_i k x k' y;obtain⟨v',u',e1,e2,e3⟩:=hl.two;have hvs:vs'=#[v',u']:=adI (by simpa using e1);obtain rfl:=e2.int;obtain rfl:=e3.int;split at hx
  .cases hx;subst hvs;exact fC.o (.ret (by simp[Builtin.max_,Builtin.max2]) .ofInt R)
  .simp[Act.exec] at hx
 .rename_i t t' a n c a' n' c';obtain⟨v',u',e1,e2,e3⟩:=hl.two;have hvs:vs'=#[v',u']:=adI (by simpa using e1);have hts2:ts=#[t,t']:=adI (by simpa using hts);subst hvs;subst hts2;split at hx
  .rename_i e e' ht ht';split at hx
   .rename_i z zz z' hsz hzz hsz';split at hx
    .rename_i hc;simp only[IT] at hc;have hzz':=BY hc.1;have hb:=adA hc.2;obtain⟨i,hi,rfl⟩:=vN hsz;rw[hi] at hb;simp only[Act.exec] at hx;split at hx
     .rename_i cs h2 hrd;obtain⟨rfl,hcs⟩:=TA hrd;split at hx
      .rename_i r h3 hap;cases hx;obtain⟨cs',S⟩:=Src.afZ R e3 hcs;exact fC.o (Br (s:=⟨a,n,c⟩) R ht (.inl ⟨_,ht'⟩) hi hzz hb e2 S hap)
      .cases hx
     .cases hx
    .simp[Act.exec] at hx
   .simp[Act.exec] at hx
  .simp[Act.exec] at hx
 .rename_i t t' a n c s;obtain⟨v',u',e1,e2,e3⟩:=hl.two;have hvs:vs'=#[v',u']:=adI (by simpa using e1);have hts2:ts=#[t,t']:=adI (by simpa using hts);subst hvs;subst hts2;obtain rfl:=e3.str;split at hx
  .rename_i e ht ht';split at hx
   .rename_i zz he hzz hsz;split at hx
    .rename_i hb;have hb:=adA hb;obtain⟨i,hi,hs1⟩:=vN hsz;rw[hi] at hb;simp only[Act.exec] at hx;split at hx
     .rename_i r h3 hap;cases hx;have S:Src P ι h w i.size s.size (.string s) (bR s) (bR s):=(by rw[hs1];exact Src.ofStr s);rw[<-hs1] at hap;exact fC.o (Br (s:=⟨a,n,c⟩) R ht (.inr ht') hi hzz hb e2 S hap)
     .cases hx
    .simp[Act.exec] at hx
   .simp[Act.exec] at hx
  .simp[Act.exec] at hx
 .rename_i a n c;obtain⟨v',e1,e2⟩:=hl.one;have hvs:vs'=#[v']:=adI (by simpa using e1);subst hvs;simp only[Act.exec] at hx;split at hx
  .rename_i p h2 hc;cases hx;unfold Cj at hc;split at hc
   .cases hc;obtain⟨a',c',rfl,hn⟩:=e2.slO;obtain rfl:a'=none:=(by cases a'<;>simp_all);exact fC.o (.ret (v':=.pointer none) rfl (.flat _ rfl) R)
   .split at hc
    .rename_i a hn;cases hc;cases e2 with
     |flat _ hf=>simp[cX] at hf
     |jg=>exact absurd rfl hn
     |slice a a' n c c' l s1 s2 k1 k2 k3 k4 k5 k6=>
      exact fC.o (.ret (v':=.pointer (some a')) (Lib.run_unsafeSliceData_row _ _ _ _ _ _ (by omega)) (.ptr _ _ ⟨s1,s2,l,k1,k2,k3⟩) R)
    .cases hc
  .cases hx
 .rename_i t tr p n;obtain⟨v',u',e1,e2,e3⟩:=hl.two;have hvs:vs'=#[v',u']:=adI (by simpa using e1);have ht0:ts[0]?=some t:=by rw[<-acQ,hts];rfl
  obtain rfl:=e3.int;subst hvs;split at hx
  .rename_i e ht;cases hck:Nat.beq (P.cellsOf e) 1 with
   |false=>rw[hck] at hx;simp[Act.exec] at hx
   |true=>
   have hce:=BY hck;rw[hck] at hx;simp only[Act.exec] at hx;split at hx
   .rename_i x h2 hu;cases hx;unfold Xl at hu;split at hu
    .split at hu
     .rename_i hn;cases hu;subst hn;obtain⟨p',rfl,hp,_⟩:=e2.Xs;obtain rfl:p'=none:=(by cases p'<;>simp_all);refine fC.o (.ret (v':=.string .empty) ?_ .ofStr R);have hmax:IntKind.i64.max=9223372036854775807:=rfl;show (Builtin.unsafeString_ ts ty #[.pointer none,.int .i64 0]).run P w=_;have hdef:Builtin.unsafeString_ ts ty #[.pointer none,.int .i64 0] =
        (do
         let n <-asInt (.int .i64 0)
         let some pt:=ts[0]? | stuck "unsafe.String: no argument types"
         if n < 0 then runtimePanic (.error "unsafe.String: len out of range")
         if n>IntKind.i64.max then unsupported (.unsafePointer "String: a length above the largest int")
         if n=0 then pure (.string .empty)
         else runtimePanic (.error "unsafe.String: ptr is nil and len is not zero")):=rfl
      rw[hdef];simp[asInt,asIntOf,hmax,ht0]
     .cases hu
    .rename_i a;obtain⟨a',rfl,ha⟩:=e2.FX;split at hu
     .rename_i c g base e' cs hg hcs;split at hu
      .rename_i hc;obtain⟨n1,n2,hg0,rfl⟩:=hc;split at hu
       .rename_i l hb;cases hu;obtain⟨ll,k1,k2,k3,k4,k5⟩:=R.live _ _ _ _ _ hg;obtain⟨cc,fz,q1,q2,q3⟩:=R.loc _ _ k1;obtain⟨s1,s2,l2,p1,p2,p3⟩:=ha;rw[k1] at p1;cases p1;obtain⟨b1,b2⟩:=ze hb;have hcc:cs=(c.drop a.off).take n.toNat/\a.off+n.toNat<=c.length:=by
         unfold aX at hcs;simp only[hg] at hcs;split at hcs
         .rename_i hle;cases hcs;exact⟨rfl,hle⟩
         .cases hcs
        have hlen:l.length=n.toNat:=(by rw[<-b1,hcc.1];simp;omega);have hnn:n=(l.length:Int):=(by omega);rw[hnn];subst k2;refine fC.o ⟨_,_,ι,Kx w ht0 ht hce a' (cells:=cc.size) (by rw[p2];simp[World.shape?,q1]) l (λx=>by rw[x] at hlen;simp at hlen;omega) (by rw[p3];omega) (by omega) (λj x hx=>?_),?_,R.shut hg hg0 k1 a' p2 _,.refl _⟩
        .obtain⟨m,h1,h2⟩:=b2 j x hx;have hj:j<n.toNat:=(by rw[<-hlen];exact (List.getElem?_eq_some_iff.1 hx).1);rw[hcc.1,aeA,if_pos hj,ady] at h1;obtain⟨v',y1,y2,y3⟩:=k5 _ _ h1;have:=y3.int;subst this;exact⟨m,by rw[add_eq s2,p2,p3,age,y1],h2⟩
        .exact .ofStr
       .cases hu
      .cases hu
     .cases hu
   .cases hx
  .simp[Act.exec] at hx
 .simp[Act.exec] at hx
theorem AA {E:Env}{a:Go.Act}(HE:iN P ι E a.tmps){xs:Array Operand}{vs:List Value}(hv:E.JP xs.toList=some vs):bA P ι vs (xs.map a.eval).toList:=by
 simpa using GH HE hv
set_option maxHeartbeats 4000000 in
theorem vj (R:Rel P W0 ι h w){nm:Option Nat}{E:Env}{o:Oper}{a:Go.Act}(HE:iN P ι E a.tmps){v:Value}(hx:(wQ P nm E o).exec h=some (v,h1)) :
  Mq P W0 ι w (execOp a.eval o) v h1:=by
 unfold wQ at hx;split at hx
 ·-- move
  rename_i x ho;split at hx
  .rename_i u hu;cases hx;simp only[execOp,ho];exact .pure (aQ HE hu) R
  .simp[Act.exec] at hx
 .rename_i x ho;split at hx
  .rename_i u hu;cases hx;simp only[execOp,ho];exact .pure (aQ HE hu) R
  .simp[Act.exec] at hx
 ·-- alloc
  rename_i t ho;split at hx
  .rename_i z hz;simp only[Act.exec] at hx;split at hx
   .rename_i b h2 hb;cases hx;simp only[execOp,ho];exact (J5 R hz hb).o
   .cases hx
  .simp[Act.exec] at hx
 ·-- box
  rename_i t x ho;split at hx
  .rename_i u hu;simp only[Act.exec] at hx;split at hx
   .rename_i b h2 hb;cases hx;simp only[execOp,ho];exact (QE R (aQ HE hu) hb).o
   .cases hx
  .simp[Act.exec] at hx
 ·-- build
  rename_i t parts ho;split at hx
  .rename_i vs hvs;simp only[execOp,ho];refine (Hy R (vs':=parts.map λ(i,x)=>(i,a.eval x)) ?_ hx).o;simpa using rG HE hvs
  .simp[Act.exec] at hx
 ·-- buildSlice
  rename_i t len parts ho;split at hx
  .rename_i vs hvs;simp only[execOp,ho];refine (Az R (vs':=parts.map λ(i,x)=>(i,a.eval x)) ?_ hx).o;simpa using rG HE hvs
  .simp[Act.exec] at hx
 ·-- load
  rename_i t x ho;split at hx
  .rename_i u hu;obtain⟨ad,rfl,hx⟩:=zw hx;obtain⟨a',e1,e2⟩:=(aQ HE hu).FX;obtain⟨rfl,v',hr,hv⟩:=GI R e2 hx;simp only[execOp,ho];exact (fC.ret (by simp[Instr.loadAt,e1,Instr.sureAddr,hr]) hv R).o
  .simp[Act.exec] at hx
 ·-- store
  rename_i t x y ho;split at hx
  .rename_i u1 u2 n hu1 hu2 hn;obtain⟨ad,rfl,hx2⟩:=zw hx;clear hx;have hx:=hx2;clear hx2;split at hx
   .rename_i hc;simp only[Act.exec] at hx;split at hx
    .rename_i q h2 hst;cases hx;obtain⟨a',e1,e2⟩:=(aQ HE hu1).FX;obtain⟨w',hr,R'⟩:=J8 R e2 (aQ HE hu2) hn (BY hc) hst;simp only[execOp,ho];exact⟨undef,w',ι,.inr ⟨by simp[Instr.storeAt,e1,Instr.sureAddr,hr],rfl⟩,.tuple _ _ rfl (by simp),R',.refl _⟩
    .cases hx
   .simp[Act.exec] at hx
  .simp[Act.exec] at hx
 ·-- nilCheck
  rename_i x ho;split at hx
  .split at hx
   .rename_i u hu;simp only[Act.exec] at hx;split at hx
    .rename_i q0 h2 hn;cases hx;unfold nnF at hn;split at hn
     .rename_i f fs cs;cases hn;have hr:=aQ HE hu;generalize hq:a.eval x=q at hr;have hr0:=hr;cases hr with
      |flat _ hf=>simp[cX] at hf
      |func _ _ fs' _ cs'=>
       have he:execOp a.eval o=Pure.pure (.value (.func (.func f) fs' cs')):=(by unfold execOp;rw[ho];dsimp only;rw[hq]);rw[he];exact .pure hr0 R
     .cases hn
    .cases hx
   .simp[Act.exec] at hx
  .split at hx
   .rename_i p hu;simp only[Act.exec] at hx;split at hx
    .rename_i ad h2 hn;cases hx;unfold nn at hn;split at hn
     .cases hn;obtain⟨a',e1,e2⟩:=(aQ HE hu).FX;have he:execOp a.eval o=Pure.pure (.value (.pointer (some a'))):=(by unfold execOp;rw[ho];dsimp only;rw[e1]);rw[he];exact .pure (.ptr _ _ e2) R
     .cases hn
    .cases hx
   .simp[Act.exec] at hx
 ·-- binOp
  rename_i op t x y yt ho;split at hx
  .rename_i u1 u2 hu1 hu2;split at hx
   .rename_i hn;simp only[execOp,ho];split at hx
    .rename_i a b hp;obtain⟨rfl,rfl⟩:u1=.pointer a/\u2=.pointer b:=by
      unfold adP at hp;split at hp<;>simp_all
     split at hx
     .rename_i e hd;split at hx
      .rename_i n hs;exact (Kd R (aQ HE hu1) (aQ HE hu2) hd hs hx).o
      .simp[Act.exec] at hx
     .simp[Act.exec] at hx
    .exact (Mr R (aQ HE hu1) (aQ HE hu2) (Mv hn) hx).o
   .simp[Act.exec] at hx
  .simp[Act.exec] at hx
 ·-- unOp
  rename_i op t x ho;split at hx
  .rename_i u hu;simp only[execOp,ho];exact (QG R (aQ HE hu) hx).o
  .simp[Act.exec] at hx
 ·-- convert
  rename_i s d x ho;split at hx
  .rename_i u hu;simp only[execOp,ho];exact (Ky R (aQ HE hu) hx).o
  .simp[Act.exec] at hx
 ·-- makeInterface
  rename_i t x ho;split at hx
  .simp[Act.exec] at hx
  .rename_i u d hu hni hd;cases hx;simp only[execOp,ho];refine (fC.ret (v':=.iface t (a.eval x)) ?_ (.iface _ _ _ (aQ HE ‹E.ev x=some u›)) R).o;cases d<;>first|(exact absurd rfl (hu _))|(exact absurd rfl (hni _))|simp[Instr.makeInterface,aL hd]
  .simp[Act.exec] at hx
 ·-- makeFunc
  rename_i fn fs cs ho;split at hx
  .rename_i f c hf hc;cases hx;simp only[execOp,ho];have r1:=AA HE hf;have r2:=AA HE hc;refine (fC.ret (v':=.func fn (fs.map a.eval) (cs.map a.eval)) rfl ?_ R).o;exact .func _ _ _ _ _ (by simpa using r1.1) (λi u u' x y=>r1.2 i u u' (by simpa using x) (by simpa using y)) (by simpa using r2.1) (λi u u' x y=>r2.2 i u u' (by simpa using x) (by simpa using y))
  .simp[Act.exec] at hx
 ·-- makeSlice
  rename_i t l c ho;split at hx
  .rename_i e kn n km m ht hl hc;split at hx
   .rename_i z hz hb;have hb:=adA hb;obtain⟨_,_,hsz,i,hi,_⟩:=gE hz;rw[hi] at hb;simp only[Act.exec] at hx;split at hx
    .rename_i r h2 hmk;cases hx;simp only[execOp,ho,(aQ HE hl).int,(aQ HE hc).int];exact (QI R ht hz hi hb hmk).o
    .cases hx
   .simp[Act.exec] at hx
  .simp[Act.exec] at hx
 ·-- slice
  rename_i t x lo hi mx ho;split at hx
  .rename_i u l hh m h1 h2 h3 h4;simp only[execOp,ho];exact (Hz R (aQ HE h1) (zx HE h2) (zx HE h3) (zx HE h4) hx).o
  .simp[Act.exec] at hx
 ·-- fieldAddr
  rename_i s x f ho;split at hx
  .rename_i fs u hs hu;split at hx
   .rename_i fd hfd;split at hx
    .rename_i n hn;split at hx
     .simp[Act.exec] at hx
     .rename_i hn0;obtain⟨ad,rfl,hx⟩:=zw hx;cases hx;obtain⟨a',e1,e2⟩:=(aQ HE hu).FX;simp only[execOp,ho];refine (fC.ret (v':=.pointer (some (a'.add fd.offset))) ?_ (.ptr _ _ (oA.plus e2 _)) R).o;have hn1:n≠0:=λx=>(by subst x;simp at hn0);simp[Instr.fieldAt,aL hs,hfd,e1,Instr.sureAddr,fieldPlace,iO hn,hn1]
    .simp[Act.exec] at hx
   .simp[Act.exec] at hx
  .simp[Act.exec] at hx
 ·-- field
  rename_i s x f ho;split at hx
  .rename_i fs cs hs hu;split at hx
   .rename_i fd hfd;split at hx
    .rename_i d n hd hn;have hr:=aQ HE hu;generalize hq:a.eval x=q at hr;cases hr with
     |flat _ hf=>simp[cX] at hf
     |agg _ cs' hsz hcs=>
      split at hx
      .rename_i hag;cases hx;simp only[execOp,ho];refine (fC.ret (v':=.agg (cs'.extract fd.offset (fd.offset+n))) ?_ ?_ R).o
       .simp[Instr.field,aL hs,hfd,hq,asAgg,part,qN hd,hag,iO hn]
       .refine .agg _ _ (by simp;omega) (λi u u' p q=>?_);simp only[afF,aeA,ady] at p;simp only[Array.getElem?_extract] at q;split at p<;>split at q
        .exact hcs _ u u' (by simpa using p) q
        .cases q
        .cases p
        .cases p
      .rename_i hag;split at hx
       .rename_i u hu2;cases hx;have hlt:=(List.getElem?_eq_some_iff.1 hu2).1;have hlt':fd.offset<cs'.size:=(by simp at hlt;omega);simp only[execOp,ho];refine (fC.ret (v':=cs'[fd.offset]) ?_ (hcs fd.offset _ _ (by simpa using hu2) (by simp[hlt'])) R).o;simp[Instr.field,aL hs,hfd,hq,asAgg,part,qN hd,hag,hlt']
       .simp[Act.exec] at hx
    .simp[Act.exec] at hx
   .simp[Act.exec] at hx
  .simp[Act.exec] at hx
 ·-- indexAddr
  rename_i t x i ho;split at hx
  .rename_i e ad n c k j ht hu hj;split at hx
   .rename_i z hz;simp only[Act.exec] at hx;split at hx
    .rename_i r h2 hix;cases hx;simp only[execOp,ho,(aQ HE hj).int];exact (Ms (s:=⟨ad,n,c⟩) R ht hz (aQ HE hu) hix).o
    .cases hx
   .simp[Act.exec] at hx
  .rename_i n e ad k j ht hu hj;split at hx
   .rename_i z hz;simp only[Act.exec] at hx;split at hx
    .rename_i q h2 hck;cases hx;obtain⟨hb,rfl⟩:=xp hck;obtain⟨a',e1,e2⟩:=(aQ HE hu).FX;simp only[execOp,ho,(aQ HE hj).int,e1];exact (Hp R ht hz e2 (of_decide_eq_true hb)).o
    .cases hx
   .simp[Act.exec] at hx
  .simp[Act.exec] at hx
 ·-- index
  rename_i t x i ho;split at hx
  .rename_i s k j ht hu hj;simp only[Act.exec] at hx;split at hx
   .rename_i b h2 hix;cases hx;simp only[execOp,ho,(aQ HE hj).int,(aQ HE hu).str];exact (Mt R ht hix).o
   .cases hx
  .rename_i n e cs k j ht hu hj;split at hx
   .rename_i d hd hz;split at hx
    .rename_i l hag hl;simp only[Act.exec] at hx;split at hx
     .rename_i y h2 hix;cases hx;unfold Hg at hix;split at hix
      case isFalse=>cases hix
      rename_i hb;split at hix
      case h_2=>cases hix
      rename_i v hv;split at hix
      case h_2=>cases hix
      rename_i y' hun;cases hix;have hpk:=pC hun;subst hpk;have hr:=aQ HE hu;generalize hq:a.eval x=q at hr;cases hr with
      |flat _ hf=>simp[cX] at hf
      |agg _ cs' hsz hcs=>
       have hlt:=(List.getElem?_eq_some_iff.1 hv).1;have hlt':j.toNat<cs'.size:=(by simp at hlt;omega);simp only[execOp,ho,(aQ HE hj).int,hq];refine (fC.ret (v':=cs'[j.toNat]) ?_ (hcs j.toNat _ _ (by simpa using hv) (by simp[hlt'])) R).o;simp[Instr.index,asIntOf,aL ht,hb,part,qN hd,hag,iO hz,hlt']
     .cases hx
    .simp[Act.exec] at hx
   .simp[Act.exec] at hx
  .simp[Act.exec] at hx
 ·-- makeMap
  rename_i t r ho;have mk:∀(k:TypeId) (m:Nat) (h2:af) (s:Sem Value),At k h=some (m,h2)->(∀w,s.run P w=.ok (.map (some w.heap.size)) { w with heap:=w.heap.push (.map #[] 0) })->fC P W0 ι w s (.map (some m)) h2:=by
   intro k m h2 s hn hs;obtain⟨ι',hle,hm,R'⟩:=Ks R hn;exact⟨_,_,ι',hs w,.map _ _ hm,R',hle⟩
  have Lh:∀(b:Nat) (k:TypeId) (m:Nat) (h2:af) (s:Sem Value),uy b k h=some (m,h2)->(∀w,s.run P w=.ok (.map (some w.heap.size)) { w with heap:=w.heap.push (.map #[] 0) })->fC P W0 ι w s (.map (some m)) h2:=by
   intro b k m h2 s hn hs;obtain⟨ι',hle,hm,R'⟩:=FZ R hn;exact⟨_,_,ι',hs w,.map _ _ hm,R',hle⟩
  split at hx
  .rename_i k e ht hr;split at hx
   .have:r=none:=by
     cases r with
     |none=>rfl
     |some x=>simp only[CK] at hr;split at hr<;>cases hr
    subst this;cases nm with
    |none=>
     simp only[Act.exec] at hx;split at hx
     .rename_i m h2 hn;cases hx;simp only[execOp,ho];exact (mk _ _ _ _ hn λw=>by simp[Instr.makeMap]).o
     .cases hx
    |some b=>
     simp only[Act.exec] at hx;split at hx
     .rename_i m h2 hn;cases hx;simp only[execOp,ho];exact (Lh _ _ _ _ _ hn λw=>by simp[Instr.makeMap]).o
     .cases hx
   .simp[Act.exec] at hx
  .rename_i k e kk nn ht hr;split at hx
   .obtain⟨x,hx1,hx2⟩:∃x,r=some x/\E.ev x=some (.int kk nn):=by
     cases r with
     |none=>cases hr
     |some x=>
      simp only[CK] at hr;split at hr
      .cases hr;exact⟨x,rfl,by assumption⟩
      .cases hr
    subst hx1;cases nm with
    |none=>
     simp only[Act.exec] at hx;split at hx
     .rename_i m h2 hn;cases hx;simp only[execOp,ho];exact (mk _ _ _ _ hn λw=>by simp[Instr.makeMap,(aQ HE hx2).int,aL ht,asInt,asIntOf]).o
     .cases hx
    |some b=>
     simp only[Act.exec] at hx;split at hx
     .rename_i m h2 hn;cases hx;simp only[execOp,ho];exact (Lh _ _ _ _ _ hn λw=>by simp[Instr.makeMap,(aQ HE hx2).int,aL ht,asInt,asIntOf]).o
     .cases hx
   .simp[Act.exec] at hx
  .simp[Act.exec] at hx
 ·-- lookup
  rename_i t x i ok ho;split at hx
  .rename_i k e m kv ht hu hi;split at hx
   .rename_i T zv hk hT hz;split at hx
    .rename_i z huz;simp only[Act.exec] at hx;split at hx
     .rename_i r h2 hg;cases hx;simp only[execOp,ho];exact (Hv R ht (aQ HE hu) hk (aQ HE hi) hz huz hg).o
     .cases hx
    .simp[Act.exec] at hx
   .simp[Act.exec] at hx
  .simp[Act.exec] at hx
 ·-- mapEntry
  rename_i t x i ho;split at hx
  .rename_i k e m kv ht hu hi;split at hx
   .rename_i T zv hk hT hz;split at hx
    .rename_i z huz;simp only[Act.exec] at hx;split at hx
     .rename_i r h2 hg;cases hx;simp only[execOp,ho];exact (Es R ht (aQ HE hu) hk (aQ HE hi) hz huz hg).o
     .cases hx
    .simp[Act.exec] at hx
   .simp[Act.exec] at hx
  .simp[Act.exec] at hx
 ·-- entryStore
  rename_i t x i y ho;split at hx
  .rename_i m kk st u hu hi hy;simp only[Act.exec] at hx;split at hx
   .rename_i r h2 hg;cases hx;obtain⟨w',hr,R'⟩:=Bs (t:=t) (kk:=kk) R (aQ HE hu) (aQ HE hy) hg;simp only[execOp,ho,(aQ HE hi).int];exact⟨undef,w',ι,.inr ⟨by simp[hr],rfl⟩,.tuple _ _ rfl (by simp),R',.refl _⟩
   .cases hx
  .simp[Act.exec] at hx
 ·-- mapUpdate
  rename_i t x i y ho;split at hx
  .rename_i k e m kv u ht hu hi hy;split at hx
   .rename_i hk;simp only[Act.exec] at hx;split at hx
    .rename_i r h2 hg;cases hx;obtain⟨w',hr,R'⟩:=wR R ht (aQ HE hu) hk (aQ HE hi) (aQ HE hy) hg;simp only[execOp,ho];exact⟨undef,w',ι,.inr ⟨by simp[hr],rfl⟩,.tuple _ _ rfl (by simp),R',.refl _⟩
    .cases hx
   .simp[Act.exec] at hx
  .simp[Act.exec] at hx
 ·-- insert
  rename_i t x i y ho;split at hx
  .rename_i k e m kv u ht hu hi hy;split at hx
   .rename_i hk;simp only[Act.exec] at hx;split at hx
    .rename_i r h2 hg;cases hx;obtain⟨w',hr,R'⟩:=wR R ht (aQ HE hu) hk (aQ HE hi) (aQ HE hy) hg;simp only[execOp,ho];exact⟨undef,w',ι,.inr ⟨by simp[hr],rfl⟩,.tuple _ _ rfl (by simp),R',.refl _⟩
    .cases hx
   .simp[Act.exec] at hx
  .simp[Act.exec] at hx
 ·-- extract
  rename_i x i ho;split at hx
  .rename_i vs hu;split at hx
   .rename_i u hu2;cases hx;have hr:=aQ HE hu;generalize hq:a.eval x=q at hr;cases hr with
    |flat _ hf=>simp[cX] at hf
    |tuple _ vs' hsz hcs=>
     have hlt:=(List.getElem?_eq_some_iff.1 hu2).1;have hlt':i<vs'.size:=(by simp at hlt;omega);simp only[execOp,ho];exact (fC.ret (v':=vs'[i]) (by simp[Instr.extract,hq,hlt']) (hcs i _ _ (by simpa using hu2) (by simp[hlt'])) R).o
   .simp[Act.exec] at hx
  .simp[Act.exec] at hx
 ·-- builtins
  rename_i c ho;split at hx
  .rename_i b vs hb hvs;simp only[execOp,ho];simp only[resolve,hb,pure_bind,invoke];exact Ev R (AA HE hvs) hx
  .simp[Act.exec] at hx
 .simp[Act.exec] at hx
end Go.Ago
