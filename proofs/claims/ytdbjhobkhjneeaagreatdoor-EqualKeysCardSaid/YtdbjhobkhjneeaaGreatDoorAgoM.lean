
import Derived.Test.YtdbjhobkhjneeaaGreatDoorAgoD
import Derived.ChangeKeysEq
set_option linter.all false
namespace Go.Ago
open Go
variable {P:Program}{W0:Fz}{ι ι':gY}{h h' h1:aj}{w w':World}
theorem FK {l}{v}(h:jv l v=true):dQ v=true:=by
 cases l<;>cases v<;>simp_all[jv,dQ]
def rH {t}{l}(h:vp P t=some l):bW P t=some 1 /\
  ((∃k,P.underlying t=some (.int k)/\l=.int k)\/(P.underlying t=some .bool/\l=.bool)\/(P.underlying t=some .string/\l=.str)):=by
 grind [vp]
def v7 {k}{v}(h:jv (.int k) v=true):∃n,v=.int k n:=by
 cases v<;>simp only[jv] at h<;>try cases h
 rename_i k' n;exact⟨n,by rw[KT h]⟩
def uB {v}(h:jv .bool v=true):∃n,v=.bool n:=by
 cases v<;>simp only[jv] at h<;>try cases h
 exact⟨_,rfl⟩
def wa {v}(h:jv .str v=true):∃n,v=.string n:=by
 cases v<;>simp only[jv] at h<;>try cases h
 exact⟨_,rfl⟩
def Nn k:Pz k k=true:=by cases k<;>rfl
theorem Cw {t}{l}(h:vp P t=some l){v u}(hv:jv l v=true)(hu:jv l u=true) d w :
  (Op.equalIn (d+1) t v u).run P w=.ok (DC v u) w:=by
 obtain⟨_,⟨k,h1,rfl⟩|⟨h1,rfl⟩|⟨h1,rfl⟩⟩:=rH h
 .obtain⟨a,rfl⟩:=v7 hv;obtain⟨b,rfl⟩:=v7 hu;rw[run_equalIn_int w d t _ _ _ _ h1];simp only[DC,Nn,am5];rfl
 .obtain⟨a,rfl⟩:=uB hv;obtain⟨b,rfl⟩:=uB hu;exact run_equalIn_bool w d t _ _ h1
 .obtain⟨a,rfl⟩:=wa hv;obtain⟨b,rfl⟩:=wa hu;rw[run_equalIn_string w d t _ _ h1,<-qC];rfl
theorem xx {t}{l}(h:vp P t=some l){v}(hv:jv l v=true) em n w :
  (Instr.checkKey em (n+1) t v).run P w=.ok () w:=by
 obtain⟨_,⟨k,h1,rfl⟩|⟨h1,rfl⟩|⟨h1,rfl⟩⟩:=rH h
 .obtain⟨a,rfl⟩:=v7 hv;simp[Instr.checkKey,aM h1]
 .obtain⟨a,rfl⟩:=uB hv;simp[Instr.checkKey,aM h1]
 .obtain⟨a,rfl⟩:=wa hv;simp[Instr.checkKey,aM h1]
theorem pC {t}{l}(h:vp P t=some l){xs}{o}{v}(hx:xs[o]?=some v) w:(part t xs o).run P w=.ok v w:=by
 obtain⟨_,⟨k,h1,rfl⟩|⟨h1,rfl⟩|⟨h1,rfl⟩⟩:=rH h<;>exact Hh h1 rfl hx w
theorem Rz {v u}(h:DC v u=true):v=u:=by
 cases v<;>cases u<;>simp only[DC,aaq,abb] at h<;>try cases h
 .grind
 .grind [KT]
 .rename_i a b;rw[qC] at h;have h:=beq_iff_eq.1 h;rw[ByteArray.toList_eq,ByteArray.toList_eq] at h;cases a;simp_all
theorem RA:∀{xs ys},Ao xs ys=true->xs=ys
 |[],[],_=>rfl
 |[],_::_,h=>by cases h
 |_::_,[],h=>by cases h
 |x::xs,y::ys,h=>by
  simp[Ao,aaq] at h;rw[Rz h.1,RA h.2]
def PJ {x y}(h:Cg x y=true):x=y:=by
 unfold Cg at h
 grind [RA,Array.toList_inj,Rz]
theorem Np {xs ys}:∀fs o ls d w ,G9 P fs o=some ls->fU ls (xs.toList.drop o)=true->fU ls (ys.toList.drop o)=true ->
  (Op.eqFields (d+1) xs ys fs).run P w=.ok (Ao (xs.toList.drop o) (ys.toList.drop o)) w
 |[],o,ls,d,w,h,hx,hy=>by
  simp only[G9,abo] at h;subst h;cases h1:xs.toList.drop o with
  |cons=>grind [fU]
  |nil=>
   cases h2:ys.toList.drop o with
   |cons=>grind [fU]
   |nil=>simp[Op.eqFields,Ao]
 |f::fs,o,ls,d,w,h,hx,hy=>by
  simp[G9] at h;split at h
  .rename_i l ls' hn ho hl hr;cases h;have ho:=IT ho;have hn : f.name ≠ "_" := by grind
   cases h1:xs.toList.drop o with
   |nil=>grind [fU]
   |cons x xs'=>
    cases h2:ys.toList.drop o with
    |nil=>grind [fU]
    |cons y ys'=>
     rw[h1] at hx;rw[h2] at hy;simp[fU,aaq] at hx hy;have hx0:xs[o]?=some x:=by
      rw[<-aed,<-alb o,<-ajr,h1];rfl
     have hy0:ys[o]?=some y:=by
      rw[<-aed,<-alb o,<-ajr,h2];rfl
     have hxt:xs.toList.drop (o+1)=xs':=(by rw[<-alY,h1];rfl);have hyt:ys.toList.drop (o+1)=ys':=(by rw[<-alY,h2];rfl);have ih:=Np fs (o+1) ls' d w hr (by rw[hxt];exact hx.2) (by rw[hyt];exact hy.2);rw[hxt,hyt] at ih;unfold Op.eqFields;rw[By hn,ho];simp only[Sem.run_bind,pC hl hx0,pC hl hy0,Result.andThen_ok,Cw hl hx.1 hy.1 d w,Ao];cases DC x y
     .simp
     .simp[ih]
  .cases h
theorem FL {xs} em n:∀fs o ls ,G9 P fs o=some ls->fU ls (xs.toList.drop o)=true ->
  ∀w,(forIn fs PUnit.unit (λf (_:PUnit)=>(do
    if f.name ≠ "_" then Instr.checkKey em (n+1) f.type (<-part f.type xs f.offset)
    pure (ForInStep.yield PUnit.unit):Sem (ForInStep PUnit)))).run P w=.ok PUnit.unit w
 |[],o,ls,h,hx,w=>by simp
 |f::fs,o,ls,h,hx,w=>by
  simp[G9] at h;split at h
  .rename_i l ls' hn ho hl hr;cases h;have ho:=IT ho;have hn : f.name ≠ "_" := by grind
   cases h1:xs.toList.drop o with
   |nil=>grind [fU]
   |cons x xs'=>
    rw[h1] at hx;simp[fU,aaq] at hx;have hx0:xs[o]?=some x:=by
     rw[<-aed,<-alb o,<-ajr,h1];rfl
    have hxt:xs.toList.drop (o+1)=xs':=(by rw[<-alY,h1];rfl);have ih:=FL em n fs (o+1) ls' hr (by rw[hxt];exact hx.2) w;rw[List.forIn_cons];simp only[hn,ne_eq,not_false_eq_true,ajN,Sem.run_bind,ho,pC hl hx0,Result.andThen_ok,xx hl hx.1,Sem.run_pure];simpa using ih
  .cases h
theorem xy {l}:∀{n} {xs},fU (List.replicate n l) xs=true->xs.length=n/\∀v∈xs,jv l v=true
 |0,[],_=>⟨rfl,by simp⟩
 |0,_::_,h=>by cases h
 |n+1,[],h=>by cases h
 |n+1,x::xs,h=>by
  rw[akq] at h;simp[fU,aaq] at h;obtain⟨h1,h2⟩:=xy h.2
  grind
theorem JN {e}{l}(hl:vp P e=some l){xs ys}(hx:∀v∈xs.toList,jv l v=true)(hy:∀v∈ys.toList,jv l v=true) d w :
  ∀k o ,xs.size=o+k->ys.size=o+k->(Op.eqItems (d+1) e 1 xs ys (List.range' o k)).run P w=.ok (Ao (xs.toList.drop o) (ys.toList.drop o)) w
 |0,o,h1,h2=>by
  have e1:xs.toList.drop o=[]:=abn (by simp;omega);have e2:ys.toList.drop o=[]:=abn (by simp;omega);simp[Op.eqItems,e1,e2,Ao]
 |k+1,o,h1,h2=>by
  have ih:=JN hl hx hy d w k (o+1) (by omega) (by omega);have l1:o<xs.toList.length:=by simp;omega
  have l2:o<ys.toList.length:=by simp;omega
  rw[aiU l1,aiU l2,am7,Op.eqItems];have p1:xs[o*1]?=some xs.toList[o]:=by grind
  have p2:ys[o*1]?=some ys.toList[o]:=by grind
  simp only[Sem.run_bind,pC hl p1,pC hl p2,Result.andThen_ok,Cw hl (hx _ (ak7 l1)) (hy _ (ak7 l2)) d w,Ao];cases DC xs.toList[o] ys.toList[o]
  .simp
  grind
theorem Hl {l}{v}(h:TO (.one l) v=true):jv l v=true:=by
 unfold TO at h;exact h
def xX {ls}{v}(h:TO (.agg ls) v=true):∃cs,v=.agg cs/\fU ls cs.toList=true:=by
 cases v<;>simp only[TO] at h<;>try cases h
 exact⟨_,rfl,h⟩
theorem RB {l}{v u}(h:jv l v=true):Cg v u=DC v u:=by
 cases v<;>first|rfl|grind [jv]
structure KY (P:Program) (t:μ) (x:ο):Prop where
 eq:∀y,qk P t y=true->∀w,(Op.equal t x y).run P w=.ok (Cg x y) w
 uw:∀em w,(Instr.checkKey em 10000 t x).run P w=.ok () w
 same:Instr.sameBits 10000 x x=true
 now:∀y,qk P t y=true->∀kd,Instr.sameNow kd x y=none\/Instr.sameNow kd x y=some (Cg x y)
 flat:∀ι v',aN P ι x v'->v'=x
theorem FM {l}{v}(h:jv l v=true) n:Instr.sameBits n v v=true:=by
 cases l<;>cases v<;>simp_all[jv,Instr.sameBits,beq_toListBytes]
theorem Xf {l}{v u}(h:jv l v=true)(hu:jv l u=true) kd:Instr.sameNow kd v u=none\/Instr.sameNow kd v u=some (DC v u):=by
 cases l with
 |int k=>
  obtain⟨a,rfl⟩:=v7 h;obtain⟨b,rfl⟩:=v7 hu;cases kd<;>first|exact .inl rfl|skip
  right;simp only[Instr.sameNow,ajN,DC,Nn,am5];rfl
 |bool=>
  obtain⟨a,rfl⟩:=uB h;obtain⟨b,rfl⟩:=uB hu;cases kd<;>first|exact .inl rfl|exact .inr rfl
 |str=>
  obtain⟨a,rfl⟩:=wa h;obtain⟨b,rfl⟩:=wa hu;cases kd<;>first|exact .inl rfl|skip
  right;simp only[Instr.sameNow];rw[beq_toListBytes,<-qC];rfl
 |_=>grind [jv]
theorem rI:∀{ls} {vs},fU ls vs=true->∀v∈vs,dQ v=true/\∃l,jv l v=true
 |[],[],_=>by simp
 |[],_::_,h=>by cases h
 |_::_,[],h=>by cases h
 |l::ls,v::vs,h=>by
  simp[fU,aaq] at h;intro u hu;rcases List.mem_cons.1 hu with rfl|hu
  .grind [FK]
  .exact rI h.2 u hu
def Nq {ls}{cs}(h:fU ls cs.toList=true) n:Instr.sameBits (n+1) (.agg cs) (.agg cs)=true:=by
 simp only[Instr.sameBits,aaq,beq_self_eq_true,akl,ajt];intro p hp;have hz:∀(l:δ) (p:ο×ο),p∈l.zip l->p.1=p.2/\p.1∈l:=by
  intro l
  induction l with
  |nil=>intro p hp;simp at hp
  |cons a l ih=>
   grind [List.zip_cons_cons]
 obtain⟨e,hm⟩:=hz _ p hp;obtain⟨_,l,hl⟩:=rI h _ hm
 grind [FM]
theorem PK {t}{x}(hx:qk P t x=true):KY P t x:=by
 have hx0:=hx;unfold qk at hx;split at hx
 .rename_i K hK;have hy0:∀y,qk P t y=true->TO K y=true:=λy hy=>by grind [qk]
  unfold MO at hK;split at hK
  ·-- struct
   rename_i fs hu;split at hK
   .rename_i ls hst hfs;cases hK;obtain⟨cs,rfl,hc⟩:=xX hx;refine⟨λy hy w=>?_,λem w=>?_,Nq hc _,λy hy kd=>?_,λι v' hr=>hr.Ry λv hv=>(rI hc v hv).1⟩
    .obtain⟨ds,rfl,hd⟩:=xX (hy0 y hy);have hff:P.fieldsOf t=fs:=(by unfold Program.fieldsOf;rw[hu]);have:=run_equalIn_struct w 9999 t cs ds (by rw[hff];exact hu) hst;unfold Op.equal Op.maxDepth;rw[this,hff];have:=Np fs.toList 0 ls 9998 w hfs hc hd;simpa[Cg] using this
    .show (Instr.checkKey em (9999+1) t (.agg cs)).run P w=_;rw[Instr.checkKey];simp only[Sem.run_bind,aM hu,Result.andThen_ok];rw[<-Array.forIn_toList];have:=FL em 9998 fs.toList 0 ls hfs hc w
     simp_all
    .obtain⟨ds,rfl,hd⟩:=xX (hy0 y hy);cases kd<;>exact .inl rfl
   .cases hK
  ·-- array
   rename_i n e hu;split at hK
   .rename_i l hl;cases hK;obtain⟨cs,rfl,hc⟩:=xX hx;obtain⟨hs1,_⟩:=rH hl;obtain⟨i,hi,hsz⟩:∃i,P.info? e=some i/\i.size=1:=by
     grind [bW,Option.some.inj]
    have hco:P.cellsOf e=1:=(by simp[Program.cellsOf,hi,hsz]);obtain⟨hn,hall⟩:=xy hc;refine⟨λy hy w=>?_,λem w=>?_,Nq hc _,λy hy kd=>?_,λι v' hr=>hr.Ry λv hv=>(rI hc v hv).1⟩
    .obtain⟨ds,rfl,hd⟩:=xX (hy0 y hy);obtain⟨hn2,hall2⟩:=xy hd;unfold Op.equal Op.maxDepth;rw[run_equalIn_array w 9999 cs ds hu hi,hco,List.range_eq_range']
     grind [JN,Cg]
    .show (Instr.checkKey em (9999+1) t (.agg cs)).run P w=_;rw[Instr.checkKey];simp only[Sem.run_bind,aM hu,Result.andThen_ok];simp only[Std.Legacy.Range.forIn_eq_forIn_range',Std.Legacy.Range.size,Nat.sub_zero,Nat.add_one_sub_one,Nat.div_one];have key:∀(k o:Nat),o+k<=cs.size->(forIn (List.range' o k) PUnit.unit (λi (_:PUnit)=>(do
       Instr.checkKey em 9999 e (<-part e cs (i*(<-sizeOf e)))
       pure (ForInStep.yield PUnit.unit):Sem (ForInStep PUnit)))).run P w=.ok PUnit.unit w:=by
      intro k
      induction k with
      |zero=>intro o _;simp
      |succ k ih=>
       intro o ho;have lt:o<cs.toList.length:=(by simp;omega);have p1:cs[o*1]?=some cs.toList[o]:=(by grind);rw[am7,List.forIn_cons];simp only[Sem.run_bind,lF hs1,Result.andThen_ok,pC hl p1,xx hl (hall _ (ak7 lt)),Sem.run_pure]
       grind
     simp_all
    .obtain⟨ds,rfl,hd⟩:=xX (hy0 y hy);cases kd<;>exact .inl rfl
   .cases hK
  .split at hK
   .rename_i l hl;cases hK;have hx:=Hl hx;refine⟨λy hy w=>?_,λem w=>?_,FM hx _,λy hy kd=>?_,λι v' hr=>hr.KV (FK hx)⟩
    .rw[RB hx];exact Cw hl hx (Hl (hy0 y hy)) 9999 w
    .grind [xx]
    grind [RB,Xf,Hl]
   .cases hK
 .cases hx
def tj (k:ο):List MapEntry->Nat->Option (Nat×ο)
 |[],_=>none
 |e::r,i=>match Cg k e.key with
  |true=>some (i,e.val)
  |false=>tj k r (i+1)
theorem findNow_spec {t}{k}(hk:KY P t k) kd:∀es i ,(∀e∈es,qk P t e.key=true) ->
  Instr.findNow kd k es i=none\/Instr.findNow kd k es i=some (tj k es i)
 |[],i,_=>.inr rfl
 |e::es,i,h=>by
  simp[Instr.findNow,tj];rcases hk.now e.key (h e (IS ..)) kd with h1|h1
  .rw[h1];exact .inl rfl
  .rw[h1];cases Cg k e.key
   .exact findNow_spec hk kd es (i+1) λe he=>h e (BY _ he)
   .exact .inr rfl
theorem Aw {t}{k}(hk:KY P t k) w:∀es i ,(∀e∈es,qk P t e.key=true) ->
  (Instr.findAsking t k es i).run P w=.ok (tj k es i) w
 |[],i,_=>by simp[Instr.findAsking,tj]
 |e::es,i,h=>by
  have ih:=Aw hk w es (i+1) λe he=>h e (BY _ he);simp only[Instr.findAsking,tj,Sem.run_bind,hk.eq e.key (h e (IS ..)) w,Result.andThen_ok];cases Cg k e.key
  .simpa using ih
  .simp
theorem xa {t}{k}{d}(hd:P.underlying t=some d)(hk:KY P t k) w {es}(h:∀e∈es,qk P t e.key=true) :
  (Instr.findKey t k es).run P w=.ok (tj k es 0) w:=by
 simp[Instr.findKey,Sem.run_bind,aM hd,Result.andThen_ok];rcases findNow_spec hk d es 0 h with h1|h1
 .grind [Aw]
 .rw[h1];simp
theorem xw.keys {t}:∀{es} {es'},xw P ι t es es'->∀e∈es',qk P t e.key=true
 |[],[],_=>by simp
 |[],_::_,h=>h.elim
 |_::_,[],h=>h.elim
 |e::r,e'::r',h=>λx hx=>by
  rcases List.mem_cons.1 hx with rfl|hx
  .rw[h.1];exact h.2.1
  .exact xw.keys h.2.2.2.2 x hx
theorem xw.length {t}:∀{es} {es'},xw P ι t es es'->es.length=es'.length
 |[],[],_=>rfl
 |[],_::_,h=>h.elim
 |_::_,[],h=>h.elim
 |e::r,e'::r',h=>by simp[xw.length h.2.2.2.2]
theorem xw.find {t} k:∀{es} {es'} i ,xw P ι t es es' ->
  (iF k es=none/\tj k es' i=none)\/∃e v' j,iF k es=some e/\tj k es' i=some (i+j,v')/\aN P ι e.val v'/\e.key=k/\∃e',es'[j]?=some e'/\e'.key=k/\e'.born=e.born/\e'.val=v'
 |[],[],i,_=>.inl ⟨rfl,rfl⟩
 |[],_::_,_,h=>h.elim
 |_::_,[],_,h=>h.elim
 |e::r,e'::r',i,h=>by
  simp only[iF,tj,h.1];cases hv:Cg k e.key
  .rcases xw.find k (i+1) h.2.2.2.2 with⟨h1,h2⟩|⟨v,v',j,h1,h2,h3,h3b,e2,h4,h5⟩
   .exact .inl ⟨h1,h2⟩
   .exact .inr ⟨v,v',j+1,h1,by grind,h3,h3b,e2,by simpa using h4,h5⟩
  .exact .inr ⟨_,_,0,rfl,rfl,h.2.2.1,(PJ hv).symm,e',rfl,by rw[h.1,PJ hv],h.2.2.2.1,rfl⟩
theorem xw.KZ {t}{k v v'}{c}(hk:qk P t k=true)(hv:aN P ι v v'):∀{es} {es'} i ,xw P ι t es es'->tj k es' i=none ->
  xw P ι t (rB k v c es) (es'++[{ key:=k,val:=v',born:=c }])
 |[],[],i,_,_=>⟨rfl,hk,hv,rfl,trivial⟩
 |[],_::_,_,h,_=>h.elim
 |_::_,[],_,h,_=>h.elim
 |e::r,e'::r',i,h,hf=>by
  simp[tj,h.1] at hf;simp only[rB];cases hq:Cg k e.key
  .rw[hq] at hf;exact⟨h.1,h.2.1,h.2.2.1,h.2.2.2.1,xw.KZ hk hv (i+1) h.2.2.2.2 hf⟩
  grind
theorem Hm {k}:∀l a b u ,tj k l a=some (b,u)->a<=b
 |[],a,b,u,h=>by cases h
 |x::l,a,b,u,h=>by
  simp[tj] at h;split at h
  .cases h;omega
  .have:=Hm l _ _ _ h;omega
theorem xw.RC {t}{k v v' u}{c}(hk:qk P t k=true)(hv:aN P ι v v'):∀{es} {es'} i j ,xw P ι t es es'->tj k es' i=some (i+j,u) ->
  xw P ι t (rB k v c es) (es'.modify j λe=>{ e with key:=k,val:=v' })
 |[],[],i,j,_,hf=>by cases hf
 |[],_::_,_,_,h,_=>h.elim
 |_::_,[],_,_,h,_=>h.elim
 |e::r,e'::r',i,j,h,hf=>by
  simp[tj,h.1] at hf;simp[rB];cases hq:Cg k e.key
  .rw[hq] at hf;simp at hf;have:=Hm _ _ _ _ hf;obtain⟨j,rfl⟩:∃q,j=q+1:=⟨j-1,by omega⟩;have:=xw.RC (c:=c) hk hv (i+1) j h.2.2.2.2 (by rw[hf];congr 2;omega);simpa using⟨h.1,h.2.1,h.2.2.1,h.2.2.2.1,this⟩
  .rw[hq] at hf;simp only[abo,aly] at hf;obtain rfl:j=0:=by omega
   rw[anU];exact⟨rfl,hk,hv,h.2.2.2.1,h.2.2.2.2⟩
theorem xw.Nr {t}{k u}:∀{es} {es'} i j ,xw P ι t es es'->tj k es' i=some (i+j,u) ->
  es'.modify j (λe=>{ e with key:=k })=es'
 |[],[],i,j,_,hf=>by cases hf
 |[],_::_,_,_,h,_=>h.elim
 |_::_,[],_,_,h,_=>h.elim
 |e::r,e'::r',i,j,h,hf=>by
  simp[tj,h.1] at hf;cases hq:Cg k e.key
  .rw[hq] at hf;simp at hf;have:=Hm _ _ _ _ hf;obtain⟨j,rfl⟩:∃q,j=q+1:=⟨j-1,by omega⟩;have:=xw.Nr (i+1) j h.2.2.2.2 (by rw[hf];congr 2;omega);simpa using this
  .rw[hq] at hf;simp only[abo,aly] at hf;obtain rfl:j=0:=by omega
   rw[anU,PJ hq,<-h.1]
theorem xw.di {t}{v v'}{b}(hv:aN P ι v v'):∀{es es2} {es'},xw P ι t es es'->JG b v es=some es2 ->
  ∃j,es'.findIdx? (λe=>(e.born:Int)==(b:Int))=some j/\xw P ι t es2 (es'.modify j λe=>{ e with val:=v' })
 |[],_,[],_,hf=>by cases hf
 |[],_,_::_,h,_=>h.elim
 |_::_,_,[],h,_=>h.elim
 |e::r,es2,e'::r',h,hf=>by
  simp[JG] at hf;have hb:((e'.born:Int)==(b:Int))=Nat.beq e.born b:=by
   rw[h.2.2.2.1,ane,beq_iff_eq];constructor
   .intro e1;have:e.born=b:=by omega
    simp_all
   simp_all
  rw[List.findIdx?_cons,hb];cases hq:Nat.beq e.born b
  .rw[hq] at hf;simp at hf;split at hf
   .rename_i l hl;cases hf;obtain⟨j,h1,h2⟩:=xw.di hv h.2.2.2.2 hl;refine⟨j+1,by simp[h1],?_⟩;simpa using⟨h.1,h.2.1,h.2.2.1,h.2.2.2.1,h2⟩
   .cases hf
  .rw[hq] at hf;cases hf;exact⟨0,by simp,by simpa using⟨h.1,h.2.1,hv,h.2.2.2.1,h.2.2.2.2⟩⟩
theorem Rel.oM (R:Rel P W0 ι h w){m r}{t}{es}{es0 es'}{c0 c}(hm:ι.mp m=some r)(hb:w.heap[r]?=some (.map es0 c0))
  (hes:xw P ι t es es'.toList):Rel P W0 ι (h.oM m ⟨t,c,es⟩) { w with heap:=w.heap.setIfInBounds r (.map es' c) }:=by
 have hr:=(Array.getElem?_eq_some_iff.1 hb).1;have hget:∀i:Nat,(w.heap.setIfInBounds r (.map es' c))[i]?=if i=r then some (.map es' c) else w.heap[i]?:=λi=>by
  grind
 have hcells:∀(i:Nat) cc e fz,w.heap[i]?=some (.cells cc e fz)->(w.heap.setIfInBounds r (.map es' c))[i]?=some (.cells cc e fz):=λi cc e fz hi=>by
  grind
 have hcell:∀a v,w.cell? a=some v->World.cell? { w with heap:=w.heap.setIfInBounds r (.map es' c) } a=some v:=by
  grind [World.cell?]
 have hmg:∀j,(h.oM m ⟨t,c,es⟩).jW j=if j=m then some ⟨t,c,es⟩ else h.jW j:=λj=>bu _ _ _ _;refine⟨λi o hi=>?_,R.yH,R.nx,λb l hl=>?_,λb c1 g base e hb1=>?_,R.iL,R.ot,R.os,R.EE,⟨λm' hm'=>?_,λm' r' hm'=>?_,R.mp.inj,λm' x1 hm'=>?_⟩⟩
 .simp[hget];rw[AT (λx=>by subst x;rw[(R.mp.loc m i hm).1] at hi;cases hi)];exact R.mN i o hi
 .obtain⟨cc,fz,q1,q2⟩:=R.loc b l hl;exact⟨cc,fz,hcells _ _ _ _ q1,q2⟩
 .obtain⟨l,q1,q2,q3,q4,q5⟩:=R.live b c1 g base e hb1
  grind
 .have q:=R.mp.yH m' hm'
  grind
 .refine⟨(R.mp.loc m' r' hm').1,?_⟩;simp[hget];by_cases e:r'=r
  .grind
  .rw[AT e];exact (R.mp.loc m' r' hm').2
 .rw[hmg] at hm';by_cases e:m'=m
  .grind
  .rw[AT e] at hm';obtain⟨r',es2,q1,q2,q3⟩:=R.mp.live m' x1 hm';have hne:r'≠r:=λx=>by subst x;exact e (R.mp.inj m' m _ q1 hm)
   grind
def Ns (R:Rel P W0 ι h w){kt}{m}(hx:DE kt h=some (m,h1)) :
  ∃ι',ι.le ι'/\ι'.mp m=some w.heap.size/\Rel P W0 ι' h1 { w with heap:=w.heap.push (.map #[] 0) }:=by
 unfold DE at hx;cases hx;have hd:=R.mp.yH h.next R.unused
 have hle:ι.le ⟨ι.f,λj=>if j=h.next then some w.heap.size else ι.mp j⟩:=by
  refine⟨λ_ _ x=>x,λm r hm=>?_⟩
  grind
 have hused:∀b,({ h.oM h.next ⟨kt,0,[]⟩ with next:=h.next+1,used:=λj=>cond (Nat.beq j h.next) true (h.used j) }:aj).used b=if b=h.next then true else h.used b:=λb=>bu _ _ _ _
 have hus:∀b,({ h.oM h.next ⟨kt,0,[]⟩ with next:=h.next+1,used:=λj=>cond (Nat.beq j h.next) true (h.used j) }:aj).used b=false->b≠h.next/\h.used b=false:=λb hb=>by
  grind
 refine⟨_,hle,by simp,?_⟩;have hnone:W0 w.heap.size=none:=by
  cases hq:W0 w.heap.size with
  |none=>rfl
  |some o=>have:=(Array.getElem?_eq_some_iff.1 (R.mN _ o hq)).1;omega
 have hlt:∀(i:Nat) o,w.heap[i]?=some o->(w.heap.push (.map #[] 0))[i]?=some o:=λi o hi=>by
  grind
 have hmg:∀j,(h.oM h.next ⟨kt,0,[]⟩).jW j=if j=h.next then some ⟨kt,0,[]⟩ else h.jW j:=λj=>bu _ _ _ _
 refine⟨λi o hi=>hlt _ _ (R.mN i o hi),λb hb=>R.yH b (hus b hb).2,λb hb=>?_,λb l hl=>?_,λb c1 g base e hb1=>?_,R.iL,λb c1 g base e hb1 hg=>?_,R.os,R.EE,⟨λm' hm'=>?_,λm' r' hm'=>?_,λm1 m2 r h1 h2=>?_,λm' x1 hm'=>?_⟩⟩
 .have hb:h.next+1<=b:=hb
  refine (hused b).trans ?_;rw[AT (by omega)];exact R.nx b (by omega)
 .obtain⟨cc,fz,q1,q2⟩:=R.loc b l hl;exact⟨cc,fz,hlt _ _ q1,q2⟩
 .obtain⟨l,q1,q2,q3,q4,q5⟩:=R.live b c1 g base e hb1;exact⟨l,q1,q2,q3,q4,λi v hv=>let ⟨v',a,b,d⟩:=q5 i v hv;⟨v',ED _ _ a,b,d.mono hle⟩⟩
 .obtain⟨q1,q2⟩:=R.ot b c1 g base e hb1 hg;refine⟨q1,(hused _).trans ?_⟩
  grind
 .obtain⟨hne,hu⟩:=hus m' hm';refine⟨?_,?_⟩
  .refine (hmg m').trans ?_;rw[AT hne];exact (R.mp.yH m' hu).1
  .simp[AT hne];exact (R.mp.yH m' hu).2
 .by_cases e:m'=h.next
  .grind
  .simp[AT e] at hm';obtain⟨q1,es,c,q2⟩:=R.mp.loc m' r' hm'
   grind
 .have mN:∀m r,ι.mp m=some r->r<w.heap.size:=λm r hm=>by
   obtain⟨_,es,c,q⟩:=R.mp.loc m r hm
   grind
  by_cases e1:m1=h.next<;>by_cases e2:m2=h.next
  .rw[e1,e2]
  .grind
  .grind
  .simp[AT e1] at h1;simp[AT e2] at h2;exact R.mp.inj _ _ _ h1 h2
 .replace hm':=(hmg m').symm.trans hm'
  by_cases e:m'=h.next
  .rw[By e] at hm';cases hm';exact⟨w.heap.size,#[],by simp[e],by simp,trivial⟩
  .rw[AT e] at hm';obtain⟨r',es2,q1,q2,q3⟩:=R.mp.live m' x1 hm';exact⟨r',es2,by simp[e,q1],hlt _ _ q2,q3.mono hle⟩
def Jc (R:Rel P W0 ι h w){k}{kt}{m}(hx:w7 k kt h=some (m,h1)) :
  ∃ι',ι.le ι'/\ι'.mp m=some w.heap.size/\Rel P W0 ι' h1 { w with heap:=w.heap.push (.map #[] 0) }:=by
 unfold w7 at hx;split at hx
 case isFalse=>cases hx
 rename_i hk;simp at hx;obtain⟨hkm,rfl⟩:=hx;subst hkm;have hd:=R.mp.yH k hk.1;have hle:ι.le ⟨ι.f,λj=>if j=k then some w.heap.size else ι.mp j⟩:=by
  refine⟨λ_ _ x=>x,λm' r hm=>?_⟩
  grind
 have hused:∀b,(h.I3 k kt).used b=if b=k then true else h.used b:=λb=>bu _ _ _ _;have hus:∀b,(h.I3 k kt).used b=false->b≠k/\h.used b=false:=λb hb=>by
  grind
 refine⟨_,hle,by simp,?_⟩;have hnone:W0 w.heap.size=none:=by
  cases hq:W0 w.heap.size with
  |none=>rfl
  |some o=>have:=(Array.getElem?_eq_some_iff.1 (R.mN _ o hq)).1;omega
 have hlt:∀(i:Nat) o,w.heap[i]?=some o->(w.heap.push (.map #[] 0))[i]?=some o:=λi o hi=>by
  grind
 have hmg:∀j,(h.oM k ⟨kt,0,[]⟩).jW j=if j=k then some ⟨kt,0,[]⟩ else h.jW j:=λj=>bu _ _ _ _;refine⟨λi o hi=>hlt _ _ (R.mN i o hi),λb hb=>R.yH b (hus b hb).2,λb hb=>?_,λb l hl=>?_,λb c1 g base e hb1=>?_,R.iL,λb c1 g base e hb1 hg=>?_,R.os,R.EE,⟨λm' hm'=>?_,λm' r' hm'=>?_,λm1 m2 r h1 h2=>?_,λm' x1 hm'=>?_⟩⟩
 .have hb:h.next<=b:=hb
  refine (hused b).trans ?_;rw[AT (by have:=hk.2.1;omega)];exact R.nx b hb
 .obtain⟨cc,fz,q1,q2⟩:=R.loc b l hl;exact⟨cc,fz,hlt _ _ q1,q2⟩
 .obtain⟨l,q1,q2,q3,q4,q5⟩:=R.live b c1 g base e hb1;exact⟨l,q1,q2,q3,q4,λi v hv=>let ⟨v',a,b,d⟩:=q5 i v hv;⟨v',ED _ _ a,b,d.mono hle⟩⟩
 .obtain⟨q1,q2⟩:=R.ot b c1 g base e hb1 hg;refine⟨q1,(hused _).trans ?_⟩
  grind
 .obtain⟨hne,hu⟩:=hus m' hm';refine⟨?_,?_⟩
  .refine (hmg m').trans ?_;rw[AT hne];exact (R.mp.yH m' hu).1
  .simp[AT hne];exact (R.mp.yH m' hu).2
 .by_cases e:m'=k
  .grind
  .simp[AT e] at hm';obtain⟨q1,es,c,q2⟩:=R.mp.loc m' r' hm'
   grind
 .have mN:∀k r,ι.mp k=some r->r<w.heap.size:=λk r hm=>by
   obtain⟨_,es,c,q⟩:=R.mp.loc k r hm
   grind
  by_cases e1:m1=k<;>by_cases e2:m2=k
  .rw[e1,e2]
  .grind
  .grind
  .simp[AT e1] at h1;simp[AT e2] at h2;exact R.mp.inj _ _ _ h1 h2
 .replace hm':=(hmg m').symm.trans hm'
  by_cases e:m'=k
  .rw[By e] at hm';cases hm';exact⟨w.heap.size,#[],by simp[e],by simp,trivial⟩
  .rw[AT e] at hm';obtain⟨r',es2,q1,q2,q3⟩:=R.mp.live m' x1 hm';exact⟨r',es2,by simp[e,q1],hlt _ _ q2,q3.mono hle⟩
def aN.Xg {m}{v'}(hr:aN P ι (.map m) v'):(m=none/\v'=.map none)\/∃a r,m=some a/\v'=.map (some r)/\ι.mp a=some r:=by
 cases hr with
 |flat _ hf=>cases m with
  |none=>exact .inl ⟨rfl,rfl⟩
  |some a=>simp[dQ] at hf
 |map a r hr=>grind
def Cy {kt}{m}{c}{es}(hx:h.DG kt m=some (c,es)):h.jW m=some ⟨kt,c,es⟩:=by
 unfold aj.DG at hx;split at hx
 .rename_i x hg;split at hx
  .rename_i hb;cases hx;rw[hg,<-IT hb]
  .cases hx
 .cases hx
theorem La {t}{v}{x}(hx:MK t v=some x):v=EA t x:=by
 cases t with
 |one l=>exact uz hx
 |agg ls=>
  cases v<;>simp only[MK] at hx<;>try cases hx
  rename_i cs;rw[EA,<-EF hx]
theorem EI {kt}{k}(h:qk P kt k=true):∃d,P.underlying kt=some d:=by
 unfold qk at h;split at h
 .rename_i K hK;unfold MO at hK;split at hK
  .grind
  .grind
  .split at hK
   .rename_i l hl;obtain⟨_,⟨k,h1,_⟩|⟨h1,_⟩|⟨h1,_⟩⟩:=rH hl<;>exact⟨_,h1⟩
   .cases hK
 .cases h
def Lb (R:Rel P W0 ι h w){t k e}(ht:P.underlying t=some (.map k e)){m}{x' kv kv'}(hm:aN P ι (.map m) x')(hk:qk P k kv=true)(hkr:aN P ι kv kv')
  {T} {zv} (hz:zeroOf P e=some zv) {z} (huz:MK T zv=some z) {ok} {r} (hx:zF k T z m kv h=some (r,h1)) :
  gZ P W0 ι w (Instr.lookup t x' kv' ok) (match ok with|true=>.tuple #[EA T r.2,.bool r.1] | false=>EA T r.2) h1:=by
 have K:=PK hk;obtain rfl:=(K.flat _ _ hkr).symm;obtain⟨d,hd⟩:=EI hk;obtain⟨_,hz1,_⟩:=fP hz;have hzz:=La huz;have hzf:aN P ι zv zv:=by
  obtain⟨q,_⟩:=fP hz;cases zv with
  |agg cs=>
   refine .agg _ _ rfl ?_;intro i u u' a b;rw[a] at b;cases b;exact .flat _ (List.all_eq_true.1 q u (by simpa[Value.cells] using ana a))
  |_=>exact .flat _ (by simpa[Value.cells] using q)
 have fin:∀(b:Bool) (x:T.den) (v':ο),aN P ι (EA T x) v' ->
   aN P ι (match ok with|true=>.tuple #[EA T x,.bool b] | false=>EA T x) (if ok then .tuple #[v',.bool b] else v'):=by
  intro b x v' hv;cases ok
  .exact hv
  .refine .tuple _ _ rfl λi u u' a c=>?_
   match i with
   |0=>grind
   |1=>simp at a c;subst a;subst c;exact .ofBool
   |i+2=>simp at a
 unfold zF at hx;split at hx
 .cases hx;rcases hm.Xg with⟨_,rfl⟩|⟨a,r,h2,_⟩
  .have hfk:(Instr.findKey k kv #[].toList).run P w=.ok none w:=xa hd K w (by simp);refine .ret ?_ (fin false z zv (by rw[<-hzz];exact hzf)) R;simp at hfk;cases ok<;>simp[Instr.lookup,aM ht,K.uw,hfk,hz1]
  .cases h2
 .rename_i m0;rcases hm.Xg with⟨h2,_⟩|⟨a,r0,h2,rfl,hr0⟩
  .cases h2
  .cases h2;split at hx
   .rename_i c es hes;obtain⟨r1,es',q1,q2,q3⟩:=R.mp.live _ _ (Cy hes);rw[hr0] at q1;cases q1;have hfk:=xa hd K w q3.keys;have hgo:=MapKept.run_getObj_map (P:=P) q2;split at hx
    .rename_i v hv;split at hx
     .rename_i x hux;cases hx;unfold Ap at hv;rcases xw.find kv 0 q3 with⟨h3,_⟩|⟨v1,v',j,h3,h4,h5,_⟩
      .rw[h3] at hv;cases hv
      .rw[h3] at hv;cases hv;rw[h4] at hfk;refine .ret ?_ (fin true x v' (by grind [La])) R;cases ok<;>simp[Instr.lookup,aM ht,K.uw,hgo,hfk]
     .cases hx
    .rename_i hv;cases hx;unfold Ap at hv;rcases xw.find kv 0 q3 with⟨h3,h4⟩|⟨v1,v',j,h3,h4,h5,_⟩
     .rw[h4] at hfk;refine .ret ?_ (fin false z zv (by rw[<-hzz];exact hzf)) R;cases ok<;>simp[Instr.lookup,aM ht,K.uw,hgo,hfk,hz1]
     grind
   .cases hx
def zJ (R:Rel P W0 ι h w){t k e}(ht:P.underlying t=some (.map k e)){m}{x' kv kv' v v'}(hm:aN P ι (.map m) x')(hk:qk P k kv=true)(hkr:aN P ι kv kv')(hv:aN P ι v v')
  {u} (hx:FG k m kv v h=some (u,h1)):∃w',(Instr.mapUpdate t x' kv' v').run P w=.ok () w'/\Rel P W0 ι h1 w':=by
 have K:=PK hk;obtain rfl:=(K.flat _ _ hkr).symm;obtain⟨d,hd⟩:=EI hk;unfold FG at hx;split at hx
 .cases hx
 .rename_i m0;rcases hm.Xg with⟨h2,_⟩|⟨a,r0,h2,rfl,hr0⟩
  .cases h2
  .cases h2;split at hx
   .rename_i c es hes;cases hx;obtain⟨r1,es',q1,q2,q3⟩:=R.mp.live _ _ (Cy hes);rw[hr0] at q1;cases q1;have hfk:=xa hd K w q3.keys;have hgo:=MapKept.run_getObj_map (P:=P) q2;have hst:(Instr.keyThatStays kv kv).run P w=.ok kv w:=(by simp[Instr.keyThatStays,K.same]);rcases xw.find kv 0 q3 with⟨h3,h4⟩|⟨v1,v2,j,h3,h4,h5,h5b,e',h6,h7,h8,h9⟩
    .rw[h4] at hfk;have hes2:xw P ι k (rB kv v c es) (es'.push { key:=kv,val:=v',born:=c }).toList:=(by simpa using xw.KZ hk hv 0 q3 h4);simp at h3;simp[h3];refine⟨{ w with heap:=w.heap.setIfInBounds r0 (.map (es'.push { key:=kv,val:=v',born:=c }) (c+1)) },?_,R.oM hr0 q2 hes2⟩
     .simp[Instr.mapUpdate,aM ht,hgo,K.uw,hfk,MapKept.run_setObj_map _ q2]
    .rw[h4] at hfk;have h6':es'[j]?=some e':=(by simpa using h6);have hes2:xw P ι k (rB kv v c es) (es'.modify j λe=>{ e with key:=kv,val:=v' }).toList:=by
      have:=xw.RC (c:=c) hk hv 0 j q3 h4;simpa using this
     simp at h3;simp[h3];refine⟨{ w with heap:=w.heap.setIfInBounds r0 (.map (es'.modify j λe=>{ e with key:=kv,val:=v' }) c) },?_,R.oM hr0 q2 hes2⟩
     .simp[Instr.mapUpdate,aM ht,hgo,K.uw,hfk,MapKept.run_setObj_map _ q2,h6',h7,hst]
   .cases hx
def Hn (R:Rel P W0 ι h w){t k e}(ht:P.underlying t=some (.map k e)){m}{x' kv kv'}(hm:aN P ι (.map m) x')(hk:qk P k kv=true)(hkr:aN P ι kv kv')
  {T} {zv} (hz:zeroOf P e=some zv) {z} (huz:MK T zv=some z) {r} (hx:yE k T z m kv h=some (r,h1)) :
  gZ P W0 ι w (Instr.mapEntry t x' kv') (.tuple #[EA T r.1,.int .i64 r.2]) h1:=by
 have K:=PK hk;obtain rfl:=(K.flat _ _ hkr).symm;obtain⟨d,hd⟩:=EI hk;obtain⟨_,hz1,_⟩:=fP hz;have hzz:=La huz;have hzf:aN P ι zv zv:=by
  obtain⟨q,_⟩:=fP hz;cases zv with
  |agg cs=>
   refine .agg _ _ rfl ?_;intro i u u' a b;rw[a] at b;cases b;exact .flat _ (List.all_eq_true.1 q u (by simpa[Value.cells] using ana a))
  |_=>exact .flat _ (by simpa[Value.cells] using q)
 have fin:∀(b:Nat) (x:T.den) (v':ο),aN P ι (EA T x) v'->aN P ι (.tuple #[EA T x,.int .i64 b]) (.tuple #[v',.int .i64 b]):=by
  intro b x v' hv;refine .tuple _ _ rfl λi u u' a c=>?_
  match i with
  |0=>grind
  |1=>simp at a c;subst a;subst c;exact .ofInt
  |i+2=>simp at a
 unfold yE at hx;split at hx
 .cases hx
 .rename_i m0;rcases hm.Xg with⟨h2,_⟩|⟨a,r0,h2,rfl,hr0⟩
  .cases h2
  .cases h2;split at hx
   .rename_i c es hes;obtain⟨r1,es',q1,q2,q3⟩:=R.mp.live _ _ (Cy hes);rw[hr0] at q1;cases q1;have hfk:=xa hd K w q3.keys;have hgo:=MapKept.run_getObj_map (P:=P) q2;have hst:(Instr.keyThatStays kv kv).run P w=.ok kv w:=(by simp[Instr.keyThatStays,K.same]);split at hx
    .rename_i e0 hv;split at hx
     .rename_i x hux;cases hx;rcases xw.find kv 0 q3 with⟨h3,h4⟩|⟨v1,v2,j,h3,h4,h5,h5b,e',h6,h7,h8,h9⟩
      .rw[h3] at hv;cases hv
      .rw[h3] at hv;cases hv;rw[h4] at hfk;have h6':es'[j]?=some e':=(by simpa using h6);have hsame:es'.modify j (λe=>{ e with key:=kv })=es':=by
        apply ajC;simpa using xw.Nr 0 j q3 h4
       refine⟨.tuple #[v2,.int .i64 e0.born],{ w with heap:=w.heap.setIfInBounds r0 (.map es' c) },ι,?_,fin _ _ _ (by grind [La]),?_,.refl _⟩
       .simp[Instr.mapEntry,aM ht,hgo,K.uw,hfk,MapKept.run_setObj_map _ q2,h6',h7,h8,hst,hsame,goInt]
       .have hid:w.heap.setIfInBounds r0 (.map es' c)=w.heap:=by
         apply ans;intro i;rw[amm];by_cases hi:r0=i
         .grind
         .rw[AT hi]
        rw[hid];exact R
     .cases hx
    .rename_i hv;cases hx;rcases xw.find kv 0 q3 with⟨h3,h4⟩|⟨v1,v2,j,h3,h4,h5,h5b,e',h6,h7,h8,h9⟩
     .rw[h4] at hfk;refine⟨.tuple #[zv,.int .i64 c],{ w with heap:=w.heap.setIfInBounds r0 (.map (es'.push { key:=kv,val:=zv,born:=c }) (c+1)) },ι,?_,fin c z zv (by rw[<-hzz];exact hzf),R.oM hr0 q2 ?_,.refl _⟩
      .simp[Instr.mapEntry,aM ht,hgo,K.uw,hfk,MapKept.run_setObj_map _ q2,hz1,goInt]
      .rw[<-hzz];simpa using xw.KZ hk hzf 0 q3 h4
     grind
   .cases hx
def EJ (R:Rel P W0 ι h w){t}{m}{x' v v'}{kk}{st}(hm:aN P ι (.map m) x')(hv:aN P ι v v')
  {u} (hx:yF m st v h=some (u,h1)):∃w',(Instr.entryStore t x' (.int kk st) v').run P w=.ok () w'/\Rel P W0 ι h1 w':=by
 unfold yF at hx;split at hx
 .cases hx
 .rename_i m0;rcases hm.Xg with⟨h2,_⟩|⟨a,r0,h2,rfl,hr0⟩
  .cases h2
  .cases h2;split at hx
   .rename_i x hes;split at hx
    .rename_i es hd hp;cases hx;obtain⟨r1,es',q1,q2,q3⟩:=R.mp.live _ _ hes;rw[hr0] at q1;cases q1;have hgo:=MapKept.run_getObj_map (P:=P) q2;obtain⟨j,h3,h4⟩:=xw.di hv q3 hp;have hst:((st.toNat:Nat):Int)=st:=Int.toNat_of_nonneg (akm hd);rw[hst] at h3;have h3':es'.findIdx? (λe=>(e.born:Int)==st)=some j:=by
      rw[List.findIdx?_toArray];exact h3
     refine⟨{ w with heap:=w.heap.setIfInBounds r0 (.map (es'.modify j λe=>{ e with val:=v' }) x.clock) },?_,R.oM hr0 q2 ?_⟩
     .simp[Instr.entryStore,hgo,asInt,asIntOf,h3',MapKept.run_setObj_map _ q2]
     .simpa using h4
    .cases hx
   .cases hx
theorem Nt (R:Rel P W0 ι h w){t e ty}{ts}(hts:ts[0]?=some t)(ht:P.underlying t=some (.slice e)){z}(hz:bW P e=some z){a}{n c}{a2}{n2 c2}{x' y'}
  (hd:aN P ι (.slice a n c) x') (hs:aN P ι (.slice a2 n2 c2) y') {k} (hx:JH ⟨a,n,c⟩ ⟨a2,n2,c2⟩ z h=some (k,h1)) :
  gZ P W0 ι w (Builtin.copy_ ts ty #[x',y']) (.int .i64 k) h1:=by
 have src:∀cs,aX h a2 (Nat.min n2 n*z)=some cs->∃cs',aZ P ι cs cs'/\(Builtin.firstCells z (Nat.min n2 n) y').run P w=.ok cs'.toArray w/\(∀v∈cs,fE v=true):=by
  intro cs hc;cases hs with
  |flat _ hf=>
   cases a2 with
   |some a=>simp[dQ] at hf
   |none=>
    simp[aX] at hc;obtain⟨h0,rfl⟩:=hc;exact⟨[],.nil,by simp[Builtin.firstCells],by simp⟩
  |slice b b' n c c' l e1 e2 e3 e4 e5 e6 e7 e8=>
   obtain⟨cs',q1,q2,q3,q4,q5⟩:=uh R ⟨e1,e2,l,e3,e4,e5⟩ hc
   grind [Builtin.firstCells]
  |lE b b' c hce=>
   have:cs=[]:=by
    simp[aX] at hc
    grind
   subst this;exact⟨[],.nil,by simp[Builtin.firstCells,loadCells,loadCellsFrom],by simp⟩
 obtain⟨y2,c3,hy2,_⟩:=hs.slO;obtain⟨x2,c4,hx2,hxn⟩:=hd.slO;have hlen:(Builtin.lenOf y').run P w=.ok n2 w:=by rw[hy2];simp[Builtin.lenOf]
 unfold JH at hx;split at hx
 .rename_i hc;cases hx;obtain⟨cs',q1,q2,_⟩:=src _ hc;have:cs'=[]:=by have:=q1.1;grind
  subst this;refine .ret (v':=.int .i64 (Nat.min n2 n)) ?_ .ofInt R;subst hx2;cases x2<;>simp[Builtin.copy_,hts,aM ht,hlen,lF hz,q2,storeCells,goInt]
 .rename_i cs hne hc;split at hx
  .cases hx
  .rename_i b hb;split at hx
   .rename_i u h2 hst;cases hx;obtain⟨cs',q1,q2,_⟩:=src _ hc;have hb:a=some b:=hb;subst hb;cases hd with
    |flat _ hf=>simp[dQ] at hf
    |slice _ b' n c c' l e1 e2 e3 e4 e5 e6 e7 e8=>
     obtain⟨w',hr,R'⟩:=EG R ⟨e1,e2,l,e3,e4,e5⟩ q1 hst;refine⟨.int .i64 (Nat.min n2 n),w',ι,?_,.ofInt,R',.refl _⟩;simp[Builtin.copy_,hts,aM ht,hlen,lF hz,q2,goInt,hr]
    |lE _ b' c hce=>
     exfalso;have:cs=[]:=by
      have:Nat.min n2 0*z=0:=(by simp);rw[this] at hc;unfold aX at hc
      grind
     exact hne this
   .cases hx
 .cases hx
end Go.Ago
