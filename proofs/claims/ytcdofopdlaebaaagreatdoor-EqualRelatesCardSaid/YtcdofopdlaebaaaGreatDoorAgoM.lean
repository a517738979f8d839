
import Derived.Test.YtcdofopdlaebaaaGreatDoorAgoD
import Derived.ChangeKeysEq
namespace Go.Ago
open Go
variable {P:Program}{W0:Fz}{ι ι':fM}{h h' h1:af}{w w':World}
theorem Cq {l:eF}{v:Value}(h:ie l v=true):cX v=true:=by
 cases l<;>cases v<;>simp_all[ie,cX]
theorem pE {t:TypeId}{l:eF}(h:sU P t=some l):bS P t=some 1 /\
  ((∃k,P.underlying t=some (.int k)/\l=.int k)\/(P.underlying t=some .bool/\l=.bool)\/(P.underlying t=some .string/\l=.str)):=by
 unfold sU at h;split at h
 .rename_i k hu hs;cases h;exact⟨hs,.inl ⟨k,hu,rfl⟩⟩
 .rename_i hu hs;cases h;exact⟨hs,.inr (.inl ⟨hu,rfl⟩)⟩
 .rename_i hu hs;cases h;exact⟨hs,.inr (.inr ⟨hu,rfl⟩)⟩
 .cases h
theorem tI {k:IntKind}{v:Value}(h:ie (.int k) v=true):∃n,v=.int k n:=by
 cases v<;>simp only[ie] at h<;>try cases h
 rename_i k' n;exact⟨n,by rw[Hm h]⟩
theorem rT {v:Value}(h:ie .bool v=true):∃n,v=.bool n:=by
 cases v<;>simp only[ie] at h<;>try cases h
 exact⟨_,rfl⟩
theorem tJ {v:Value}(h:ie .str v=true):∃n,v=.string n:=by
 cases v<;>simp only[ie] at h<;>try cases h
 exact⟨_,rfl⟩
theorem Kj (k:IntKind):OL k k=true:=by cases k<;>rfl
theorem zu {t:TypeId}{l:eF}(h:sU P t=some l){v u:Value}(hv:ie l v=true)(hu:ie l u=true)(d:Nat)(w:World) :
  (Op.equalIn (d+1) t v u).run P w=.ok (As v u) w:=by
 obtain⟨_,⟨k,h1,rfl⟩|⟨h1,rfl⟩|⟨h1,rfl⟩⟩:=pE h
 .obtain⟨a,rfl⟩:=tI hv;obtain⟨b,rfl⟩:=tI hu;rw[run_equalIn_int w d t _ _ _ _ h1];simp only[As,Kj,agf];rfl
 .obtain⟨a,rfl⟩:=rT hv;obtain⟨b,rfl⟩:=rT hu;exact run_equalIn_bool w d t _ _ h1
 .obtain⟨a,rfl⟩:=tJ hv;obtain⟨b,rfl⟩:=tJ hu;rw[run_equalIn_string w d t _ _ h1];rfl
theorem uQ {t:TypeId}{l:eF}(h:sU P t=some l){v:Value}(hv:ie l v=true)(em:Bool)(n:Nat)(w:World) :
  (Instr.checkKey em (n+1) t v).run P w=.ok () w:=by
 obtain⟨_,⟨k,h1,rfl⟩|⟨h1,rfl⟩|⟨h1,rfl⟩⟩:=pE h
 .obtain⟨a,rfl⟩:=tI hv;simp[Instr.checkKey,aL h1]
 .obtain⟨a,rfl⟩:=rT hv;simp[Instr.checkKey,aL h1]
 .obtain⟨a,rfl⟩:=tJ hv;simp[Instr.checkKey,aL h1]
theorem nK {t:TypeId}{l:eF}(h:sU P t=some l){xs:Array Value}{o:Nat}{v:Value}(hx:xs[o]?=some v)(w:World):(part t xs o).run P w=.ok v w:=by
 obtain⟨_,⟨k,h1,rfl⟩|⟨h1,rfl⟩|⟨h1,rfl⟩⟩:=pE h<;>exact Em h1 rfl hx w
theorem OS {v u:Value}(h:As v u=true):v=u:=by
 cases v<;>cases u<;>simp only[As,IT,decide_eq_true_eq] at h<;>try cases h
 .rename_i a b;simp at h;rw[h]
 .rename_i h1 h2;rw[Hm h1,h2]
 .rename_i a b;unfold mI at h;have h:=beq_iff_eq.1 h;rw[ByteArray.toList_eq,ByteArray.toList_eq] at h;cases a;cases b;simp at h;rw[h]
theorem OT:∀{xs ys:List Value},xi xs ys=true->xs=ys
 |[],[],_=>rfl
 |[],_::_,h=>by cases h
 |_::_,[],h=>by cases h
 |x::xs,y::ys,h=>by
  simp only[xi,IT] at h;rw[OS h.1,OT h.2]
theorem Mu {x y:Value}(h:vG x y=true):x=y:=by
 unfold vG at h;split at h
 .have:=OT h;rw[Array.toList_inj.1 this]
 .exact OS h
theorem Kl {xs ys:Array Value}:∀(fs:List Field) (o:Nat) (ls:List eF) (d:Nat) (w:World),Eb P fs o=some ls->fD ls (xs.toList.drop o)=true->fD ls (ys.toList.drop o)=true ->
  (Op.eqFields (d+1) xs ys fs).run P w=.ok (xi (xs.toList.drop o) (ys.toList.drop o)) w
 |[],o,ls,d,w,h,hx,hy=>by
  simp only[Eb,aaM] at h;subst h;cases h1:xs.toList.drop o with
  |cons=>rw[h1] at hx;simp[fD] at hx
  |nil=>
   cases h2:ys.toList.drop o with
   |cons=>rw[h2] at hy;simp[fD] at hy
   |nil=>simp[Op.eqFields,xi]
 |f::fs,o,ls,d,w,h,hx,hy=>by
  simp only[Eb] at h;split at h
  .rename_i l ls' hn ho hl hr;cases h;have ho:=BY ho;have hn : f.name ≠ "_" := by intro e; rw[e] at hn; exact absurd hn (by decide)
   cases h1:xs.toList.drop o with
   |nil=>rw[h1] at hx;simp[fD] at hx
   |cons x xs'=>
    cases h2:ys.toList.drop o with
    |nil=>rw[h2] at hy;simp[fD] at hy
    |cons y ys'=>
     rw[h1] at hx;rw[h2] at hy;simp only[fD,IT] at hx hy;have hx0:xs[o]?=some x:=by
      rw[<-acQ,<-afs o,<-ady,h1];rfl
     have hy0:ys[o]?=some y:=by
      rw[<-acQ,<-afs o,<-ady,h2];rfl
     have hxt:xs.toList.drop (o+1)=xs':=(by rw[<-afK,h1];rfl);have hyt:ys.toList.drop (o+1)=ys':=(by rw[<-afK,h2];rfl);have ih:=Kl (xs:=xs) (ys:=ys) fs (o+1) ls' d w hr (by rw[hxt];exact hx.2) (by rw[hyt];exact hy.2);rw[hxt,hyt] at ih;unfold Op.eqFields;rw[if_pos hn,ho];simp only[Sem.run_bind,nK hl hx0,nK hl hy0,Result.andThen_ok,zu hl hx.1 hy.1 d w,xi];cases As x y
     .simp
     .simp[ih]
  .cases h
theorem Cr {xs:Array Value}(em:Bool)(n:Nat):∀(fs:List Field) (o:Nat) (ls:List eF),Eb P fs o=some ls->fD ls (xs.toList.drop o)=true ->
  ∀w,(forIn fs PUnit.unit (λf (_:PUnit)=>(do
    if f.name ≠ "_" then Instr.checkKey em (n+1) f.type (<-part f.type xs f.offset)
    pure (ForInStep.yield PUnit.unit):Sem (ForInStep PUnit)))).run P w=.ok PUnit.unit w
 |[],o,ls,h,hx,w=>by simp
 |f::fs,o,ls,h,hx,w=>by
  simp only[Eb] at h;split at h
  .rename_i l ls' hn ho hl hr;cases h;have ho:=BY ho;have hn : f.name ≠ "_" := by intro e; rw[e] at hn; exact absurd hn (by decide)
   cases h1:xs.toList.drop o with
   |nil=>rw[h1] at hx;simp[fD] at hx
   |cons x xs'=>
    rw[h1] at hx;simp only[fD,IT] at hx;have hx0:xs[o]?=some x:=by
     rw[<-acQ,<-afs o,<-ady,h1];rfl
    have hxt:xs.toList.drop (o+1)=xs':=(by rw[<-afK,h1];rfl);have ih:=Cr (xs:=xs) em n fs (o+1) ls' hr (by rw[hxt];exact hx.2) w;rw[ag0];simp only[hn,ne_eq,not_false_eq_true,if_true,Sem.run_bind,ho,nK hl hx0,Result.andThen_ok,uQ hl hx.1,Sem.run_pure];simpa using ih
  .cases h
theorem uR {l:eF}:∀{n:Nat} {xs:List Value},fD (List.replicate n l) xs=true->xs.length=n/\∀v∈xs,ie l v=true
 |0,[],_=>⟨rfl,by simp⟩
 |0,_::_,h=>by cases h
 |n+1,[],h=>by cases h
 |n+1,x::xs,h=>by
  rw[aeO] at h;simp only[fD,IT] at h;obtain⟨h1,h2⟩:=uR h.2;exact⟨by simp[h1],λv hv=>by
   rcases List.mem_cons.1 hv with rfl|hv
   .exact h.1
   .exact h2 v hv⟩
theorem GL {e:TypeId}{l:eF}(hl:sU P e=some l){xs ys:Array Value}(hx:∀v∈xs.toList,ie l v=true)(hy:∀v∈ys.toList,ie l v=true)(d:Nat)(w:World) :
  ∀(k o:Nat),xs.size=o+k->ys.size=o+k->(Op.eqItems (d+1) e 1 xs ys (List.range' o k)).run P w=.ok (xi (xs.toList.drop o) (ys.toList.drop o)) w
 |0,o,h1,h2=>by
  have e1:xs.toList.drop o=[]:=aaS (by simp;omega);have e2:ys.toList.drop o=[]:=aaS (by simp;omega);simp[Op.eqItems,e1,e2,xi]
 |k+1,o,h1,h2=>by
  have ih:=GL hl hx hy d w k (o+1) (by omega) (by omega);have l1:o<xs.toList.length:=by simp;omega
  have l2:o<ys.toList.length:=by simp;omega
  rw[aee l1,aee l2,agB,Op.eqItems];have p1:xs[o*1]?=some xs.toList[o]:=by rw[acq,<-acQ];exact aaJ l1
  have p2:ys[o*1]?=some ys.toList[o]:=by rw[acq,<-acQ];exact aaJ l2
  simp only[Sem.run_bind,nK hl p1,nK hl p2,Result.andThen_ok,zu hl (hx _ (afl l1)) (hy _ (afl l2)) d w,xi];cases As xs.toList[o] ys.toList[o]
  .simp
  .simp only[agh,aa1,if_false,agf];exact ih
theorem Er {l:eF}{v:Value}(h:QC (.one l) v=true):ie l v=true:=by
 unfold QC at h;exact h
theorem vh {ls:List eF}{v:Value}(h:QC (.agg ls) v=true):∃cs,v=.agg cs/\fD ls cs.toList=true:=by
 cases v<;>simp only[QC] at h<;>try cases h
 exact⟨_,rfl,h⟩
theorem OU {l:eF}{v u:Value}(h:ie l v=true):vG v u=As v u:=by
 cases v<;>first|rfl|(cases l<;>simp[ie] at h)
structure Hq (P:Program) (t:TypeId) (x:Value):Prop where
 eq:∀y,nq P t y=true->∀w,(Op.equal t x y).run P w=.ok (vG x y) w
 kG:∀em w,(Instr.checkKey em 10000 t x).run P w=.ok () w
 same:Instr.sameBits 10000 x x=true
 now:∀y,nq P t y=true->∀kd,Instr.sameNow kd x y=none\/Instr.sameNow kd x y=some (vG x y)
 flat:∀ι v',aS P ι x v'->v'=x
theorem Cs {l:eF}{v:Value}(h:ie l v=true)(n:Nat):Instr.sameBits n v v=true:=by
 cases l<;>cases v<;>simp_all[ie,Instr.sameBits,beq_toListBytes]
theorem TB {l:eF}{v u:Value}(h:ie l v=true)(hu:ie l u=true)(kd:TypeDesc):Instr.sameNow kd v u=none\/Instr.sameNow kd v u=some (As v u):=by
 cases l with
 |int k=>
  obtain⟨a,rfl⟩:=tI h;obtain⟨b,rfl⟩:=tI hu;cases kd<;>first|exact .inl rfl|skip
  right;simp only[Instr.sameNow,if_true,As,Kj,agf];rfl
 |bool=>
  obtain⟨a,rfl⟩:=rT h;obtain⟨b,rfl⟩:=rT hu;cases kd<;>first|exact .inl rfl|exact .inr rfl
 |str=>
  obtain⟨a,rfl⟩:=tJ h;obtain⟨b,rfl⟩:=tJ hu;cases kd<;>first|exact .inl rfl|skip
  right;simp only[Instr.sameNow];rw[beq_toListBytes];rfl
 |_=>cases v<;>simp[ie] at h
theorem pF:∀{ls:List eF} {vs:List Value},fD ls vs=true->∀v∈vs,cX v=true/\∃l,ie l v=true
 |[],[],_=>by simp
 |[],_::_,h=>by cases h
 |_::_,[],h=>by cases h
 |l::ls,v::vs,h=>by
  simp only[fD,IT] at h;intro u hu;rcases List.mem_cons.1 hu with rfl|hu
  .exact⟨Cq h.1,l,h.1⟩
  .exact pF h.2 u hu
theorem Kn {ls:List eF}{cs:Array Value}(h:fD ls cs.toList=true)(n:Nat):Instr.sameBits (n+1) (.agg cs) (.agg cs)=true:=by
 simp only[Instr.sameBits,IT,beq_self_eq_true,true_and,adx];intro p hp;have hz:∀(l:List Value) (p:Value×Value),p∈l.zip l->p.1=p.2/\p.1∈l:=by
  intro l
  induction l with
  |nil=>intro p hp;simp at hp
  |cons a l ih=>
   intro p hp;rw[List.zip_cons_cons] at hp;rcases List.mem_cons.1 hp with rfl|hp
   .exact⟨rfl,By ..⟩
   .exact⟨(ih p hp).1,AT _ (ih p hp).2⟩
 obtain⟨e,hm⟩:=hz _ p hp;obtain⟨_,l,hl⟩:=pF h _ hm;obtain⟨a,b⟩:=p;simp only at e hl⊢;subst e;exact Cs hl n
theorem Hr {t:TypeId}{x:Value}(hx:nq P t x=true):Hq P t x:=by
 have hx0:=hx;unfold nq at hx;split at hx
 .rename_i K hK;have hy0:∀y,nq P t y=true->QC K y=true:=λy hy=>by unfold nq at hy;rw[hK] at hy;exact hy
  unfold JR at hK;split at hK
  ·-- struct
   rename_i fs hu;split at hK
   .rename_i ls hst hfs;cases hK;obtain⟨cs,rfl,hc⟩:=vh hx;refine⟨λy hy w=>?_,λem w=>?_,Kn hc _,λy hy kd=>?_,λι v' hr=>hr.OR λv hv=>(pF hc v hv).1⟩
    .obtain⟨ds,rfl,hd⟩:=vh (hy0 y hy);have hff:P.fieldsOf t=fs:=(by unfold Program.fieldsOf;rw[hu]);have:=run_equalIn_struct (P:=P) w 9999 t cs ds (by rw[hff];exact hu) hst;unfold Op.equal Op.maxDepth;rw[this,hff];have:=Kl (xs:=cs) (ys:=ds) fs.toList 0 ls 9998 w hfs hc hd;simpa[vG] using this
    .show (Instr.checkKey em (9999+1) t (.agg cs)).run P w=_;rw[Instr.checkKey];simp only[Sem.run_bind,aL hu,Result.andThen_ok];rw[<-Array.forIn_toList];have:=Cr (P:=P) (xs:=cs) em 9998 fs.toList 0 ls hfs hc w;simp at this;simp[this]
    .obtain⟨ds,rfl,hd⟩:=vh (hy0 y hy);cases kd<;>exact .inl rfl
   .cases hK
  ·-- array
   rename_i n e hu;split at hK
   .rename_i l hl;cases hK;obtain⟨cs,rfl,hc⟩:=vh hx;obtain⟨hs1,_⟩:=pE hl;obtain⟨i,hi,hsz⟩:∃i,P.info? e=some i/\i.size=1:=by
     unfold bS at hs1;split at hs1
     .rename_i i hi;exact⟨i,hi,abi hs1⟩
     .cases hs1
    have hco:P.cellsOf e=1:=(by simp[Program.cellsOf,hi,hsz]);obtain⟨hn,hall⟩:=uR hc;refine⟨λy hy w=>?_,λem w=>?_,Kn hc _,λy hy kd=>?_,λι v' hr=>hr.OR λv hv=>(pF hc v hv).1⟩
    .obtain⟨ds,rfl,hd⟩:=vh (hy0 y hy);obtain⟨hn2,hall2⟩:=uR hd;unfold Op.equal Op.maxDepth;rw[run_equalIn_array w 9999 cs ds hu hi,hco,List.range_eq_range'];have:=GL hl hall hall2 9998 w n 0 (by simpa using hn) (by simpa using hn2);simpa[vG] using this
    .show (Instr.checkKey em (9999+1) t (.agg cs)).run P w=_;rw[Instr.checkKey];simp only[Sem.run_bind,aL hu,Result.andThen_ok];simp only[Std.Legacy.Range.forIn_eq_forIn_range',Std.Legacy.Range.size,Nat.sub_zero,Nat.add_one_sub_one,Nat.div_one];have key:∀(k o:Nat),o+k<=cs.size->(forIn (List.range' o k) PUnit.unit (λi (_:PUnit)=>(do
       Instr.checkKey em 9999 e (<-part e cs (i*(<-sizeOf e)))
       pure (ForInStep.yield PUnit.unit):Sem (ForInStep PUnit)))).run P w=.ok PUnit.unit w:=by
      intro k
      induction k with
      |zero=>intro o _;simp
      |succ k ih=>
       intro o ho;have lt:o<cs.toList.length:=(by simp;omega);have p1:cs[o*1]?=some cs.toList[o]:=(by rw[acq,<-acQ];exact aaJ lt);rw[agB,ag0];simp only[Sem.run_bind,iO hs1,Result.andThen_ok,nK hl p1,uQ hl (hall _ (afl lt)),Sem.run_pure];exact ih (o+1) (by omega)
     have:=key n 0 (by have:cs.toList.length=n:=hn;simp at this;omega);simp at this;simp[this]
    .obtain⟨ds,rfl,hd⟩:=vh (hy0 y hy);cases kd<;>exact .inl rfl
   .cases hK
  .split at hK
   .rename_i l hl;cases hK;have hx:=Er hx;refine⟨λy hy w=>?_,λem w=>?_,Cs hx _,λy hy kd=>?_,λι v' hr=>hr.Ho (Cq hx)⟩
    .rw[OU hx];exact zu hl hx (Er (hy0 y hy)) 9999 w
    .exact uQ hl hx em 9999 w
    .rw[OU hx];exact TB hx (Er (hy0 y hy)) kd
   .cases hK
 .cases hx
def od (k:Value):List MapEntry->Nat->Option (Nat×Value)
 |[],_=>none
 |e::r,i=>match vG k e.key with
  |true=>some (i,e.val)
  |false=>od k r (i+1)
theorem findNow_spec {t:TypeId}{k:Value}(hk:Hq P t k)(kd:TypeDesc):∀(es:List MapEntry) (i:Nat),(∀e∈es,nq P t e.key=true) ->
  Instr.findNow kd k es i=none\/Instr.findNow kd k es i=some (od k es i)
 |[],i,_=>.inr rfl
 |e::es,i,h=>by
  simp only[Instr.findNow,od];rcases hk.now e.key (h e (By ..)) kd with h1|h1
  .rw[h1];exact .inl rfl
  .rw[h1];cases vG k e.key
   .exact findNow_spec hk kd es (i+1) λe he=>h e (AT _ he)
   .exact .inr rfl
theorem xq {t:TypeId}{k:Value}(hk:Hq P t k)(w:World):∀(es:List MapEntry) (i:Nat),(∀e∈es,nq P t e.key=true) ->
  (Instr.findAsking t k es i).run P w=.ok (od k es i) w
 |[],i,_=>by simp[Instr.findAsking,od]
 |e::es,i,h=>by
  have ih:=xq hk w es (i+1) λe he=>h e (AT _ he);simp only[Instr.findAsking,od,Sem.run_bind,hk.eq e.key (h e (By ..)) w,Result.andThen_ok];cases vG k e.key
  .simpa using ih
  .simp
theorem rU {t:TypeId}{k:Value}{d:TypeDesc}(hd:P.underlying t=some d)(hk:Hq P t k)(w:World){es:List MapEntry}(h:∀e∈es,nq P t e.key=true) :
  (Instr.findKey t k es).run P w=.ok (od k es 0) w:=by
 simp only[Instr.findKey,Sem.run_bind,aL hd,Result.andThen_ok];rcases findNow_spec hk d es 0 h with h1|h1
 .rw[h1];exact xq hk w es 0 h
 .rw[h1];simp
theorem rR.keys {t:TypeId}:∀{es:List nh} {es':List MapEntry},rR P ι t es es'->∀e∈es',nq P t e.key=true
 |[],[],_=>by simp
 |[],_::_,h=>h.elim
 |_::_,[],h=>h.elim
 |e::r,e'::r',h=>λx hx=>by
  rcases List.mem_cons.1 hx with rfl|hx
  .rw[h.1];exact h.2.1
  .exact rR.keys h.2.2.2.2 x hx
theorem rR.length {t:TypeId}:∀{es:List nh} {es':List MapEntry},rR P ι t es es'->es.length=es'.length
 |[],[],_=>rfl
 |[],_::_,h=>h.elim
 |_::_,[],h=>h.elim
 |e::r,e'::r',h=>by simp[rR.length h.2.2.2.2]
theorem rR.find {t:TypeId}(k:Value):∀{es:List nh} {es':List MapEntry} (i:Nat),rR P ι t es es' ->
  (fY k es=none/\od k es' i=none)\/∃e v' j,fY k es=some e/\od k es' i=some (i+j,v')/\aS P ι e.val v'/\e.key=k/\∃e',es'[j]?=some e'/\e'.key=k/\e'.born=e.born/\e'.val=v'
 |[],[],i,_=>.inl ⟨rfl,rfl⟩
 |[],_::_,_,h=>h.elim
 |_::_,[],_,h=>h.elim
 |e::r,e'::r',i,h=>by
  simp only[fY,od,h.1];cases hv:vG k e.key
  .rcases rR.find k (i+1) h.2.2.2.2 with⟨h1,h2⟩|⟨v,v',j,h1,h2,h3,h3b,e2,h4,h5⟩
   .exact .inl ⟨h1,h2⟩
   .exact .inr ⟨v,v',j+1,h1,by rw[show i+(j+1)=i+1+j by omega];exact h2,h3,h3b,e2,by simpa using h4,h5⟩
  .exact .inr ⟨_,_,0,rfl,rfl,h.2.2.1,(Mu hv).symm,e',rfl,by rw[h.1,Mu hv],h.2.2.2.1,rfl⟩
theorem rR.Hs {t:TypeId}{k v v':Value}{c:Nat}(hk:nq P t k=true)(hv:aS P ι v v'):∀{es:List nh} {es':List MapEntry} (i:Nat),rR P ι t es es'->od k es' i=none ->
  rR P ι t (px k v c es) (es'++[{ key:=k,val:=v',born:=c }])
 |[],[],i,_,_=>⟨rfl,hk,hv,rfl,trivial⟩
 |[],_::_,_,h,_=>h.elim
 |_::_,[],_,h,_=>h.elim
 |e::r,e'::r',i,h,hf=>by
  simp only[od,h.1] at hf;simp only[px];cases hq:vG k e.key
  .rw[hq] at hf;exact⟨h.1,h.2.1,h.2.2.1,h.2.2.2.1,rR.Hs hk hv (i+1) h.2.2.2.2 hf⟩
  .rw[hq] at hf;cases hf
theorem Ax {k:Value}:∀(l:List MapEntry) (a b:Nat) (u:Value),od k l a=some (b,u)->a<=b
 |[],a,b,u,h=>by cases h
 |x::l,a,b,u,h=>by
  simp only[od] at h;split at h
  .cases h;omega
  .have:=Ax l _ _ _ h;omega
theorem rR.OW {t:TypeId}{k v v' u:Value}{c:Nat}(hk:nq P t k=true)(hv:aS P ι v v'):∀{es:List nh} {es':List MapEntry} (i j:Nat),rR P ι t es es'->od k es' i=some (i+j,u) ->
  rR P ι t (px k v c es) (es'.modify j λe=>{ e with key:=k,val:=v' })
 |[],[],i,j,_,hf=>by cases hf
 |[],_::_,_,_,h,_=>h.elim
 |_::_,[],_,_,h,_=>h.elim
 |e::r,e'::r',i,j,h,hf=>by
  simp only[od,h.1] at hf;simp only[px];cases hq:vG k e.key
  .rw[hq] at hf;simp only at hf;have:=Ax _ _ _ _ hf;obtain⟨j,rfl⟩:∃q,j=q+1:=⟨j-1,by omega⟩;have:=rR.OW (u:=u) (c:=c) hk hv (i+1) j h.2.2.2.2 (by rw[hf];congr 2;omega);simpa using⟨h.1,h.2.1,h.2.2.1,h.2.2.2.1,this⟩
  .rw[hq] at hf;simp only[aaM,aez] at hf;obtain rfl:j=0:=by omega
   rw[ag3];exact⟨rfl,hk,hv,h.2.2.2.1,h.2.2.2.2⟩
theorem rR.Ko {t:TypeId}{k u:Value}:∀{es:List nh} {es':List MapEntry} (i j:Nat),rR P ι t es es'->od k es' i=some (i+j,u) ->
  es'.modify j (λe=>{ e with key:=k })=es'
 |[],[],i,j,_,hf=>by cases hf
 |[],_::_,_,_,h,_=>h.elim
 |_::_,[],_,_,h,_=>h.elim
 |e::r,e'::r',i,j,h,hf=>by
  simp only[od,h.1] at hf;cases hq:vG k e.key
  .rw[hq] at hf;simp only at hf;have:=Ax _ _ _ _ hf;obtain⟨j,rfl⟩:∃q,j=q+1:=⟨j-1,by omega⟩;have:=rR.Ko (u:=u) (i+1) j h.2.2.2.2 (by rw[hf];congr 2;omega);simpa using this
  .rw[hq] at hf;simp only[aaM,aez] at hf;obtain rfl:j=0:=by omega
   rw[ag3,Mu hq,<-h.1]
theorem rR.dQ {t:TypeId}{v v':Value}{b:Nat}(hv:aS P ι v v'):∀{es es2:List nh} {es':List MapEntry},rR P ι t es es'->Gz b v es=some es2 ->
  ∃j,es'.findIdx? (λe=>(e.born:Int)==(b:Int))=some j/\rR P ι t es2 (es'.modify j λe=>{ e with val:=v' })
 |[],_,[],_,hf=>by cases hf
 |[],_,_::_,h,_=>h.elim
 |_::_,_,[],h,_=>h.elim
 |e::r,es2,e'::r',h,hf=>by
  simp only[Gz] at hf;have hb:((e'.born:Int)==(b:Int))=Nat.beq e.born b:=by
   rw[h.2.2.2.1,Bool.eq_iff_iff,beq_iff_eq];constructor
   .intro e1;have:e.born=b:=(by omega);rw[this];exact aeP b
   .intro e1;rw[BY e1]
  rw[List.findIdx?_cons,hb];cases hq:Nat.beq e.born b
  .rw[hq] at hf;simp only at hf;split at hf
   .rename_i l hl;cases hf;obtain⟨j,h1,h2⟩:=rR.dQ hv h.2.2.2.2 hl;refine⟨j+1,by simp[h1],?_⟩;simpa using⟨h.1,h.2.1,h.2.2.1,h.2.2.2.1,h2⟩
   .cases hf
  .rw[hq] at hf;cases hf;exact⟨0,by simp,by simpa using⟨h.1,h.2.1,hv,h.2.2.2.1,h.2.2.2.2⟩⟩
theorem rR.Kq {t:TypeId}{k:Value}:∀{es:List nh} {es':List MapEntry} (i:Nat),rR P ι t es es'->od k es' i=none->QB k es=es
 |[],[],i,_,_=>rfl
 |[],_::_,_,h,_=>h.elim
 |_::_,[],_,h,_=>h.elim
 |e::r,e'::r',i,h,hf=>by
  simp only[od,h.1] at hf;simp only[QB];cases hq:vG k e.key
  .rw[hq] at hf;simp only;rw[rR.Kq (i+1) h.2.2.2.2 hf]
  .rw[hq] at hf;cases hf
theorem rR.Kr {t:TypeId}{k u:Value}:∀{es:List nh} {es':List MapEntry} (i j:Nat),rR P ι t es es'->od k es' i=some (i+j,u)->rR P ι t (QB k es) (es'.eraseIdx j)
 |[],[],i,j,_,hf=>by cases hf
 |[],_::_,_,_,h,_=>h.elim
 |_::_,[],_,_,h,_=>h.elim
 |e::r,e'::r',i,j,h,hf=>by
  simp only[od,h.1] at hf;simp only[QB];cases hq:vG k e.key
  .rw[hq] at hf;simp only at hf;have:=Ax _ _ _ _ hf;obtain⟨j,rfl⟩:∃q,j=q+1:=⟨j-1,by omega⟩;have:=rR.Kr (u:=u) (i+1) j h.2.2.2.2 (by rw[hf];congr 2;omega);simpa using⟨h.1,h.2.1,h.2.2.1,h.2.2.2.1,this⟩
  .rw[hq] at hf;simp only[aaM,aez] at hf;obtain rfl:j=0:=by omega
   simpa using h.2.2.2.2
theorem Rel.mJ (R:Rel P W0 ι h w){m r:Nat}{t:TypeId}{es:List nh}{es0 es':Array MapEntry}{c0 c:Nat}(hm:ι.mp m=some r)(hb:w.heap[r]?=some (.map es0 c0))
  (hes:rR P ι t es es'.toList):Rel P W0 ι (h.mJ m ⟨t,c,es⟩) { w with heap:=w.heap.setIfInBounds r (.map es' c) }:=by
 have hr:=(Array.getElem?_eq_some_iff.1 hb).1;have hget:∀i:Nat,(w.heap.setIfInBounds r (.map es' c))[i]?=if i=r then some (.map es' c) else w.heap[i]?:=λi=>by
  rw[adD];by_cases e:r=i
  .subst e;simp[hr]
  .simp[e,show ¬i=r from λx=>e x.symm]
 have hcells:∀(i:Nat) cc e fz,w.heap[i]?=some (.cells cc e fz)->(w.heap.setIfInBounds r (.map es' c))[i]?=some (.cells cc e fz):=λi cc e fz hi=>by
  rw[hget,if_neg (λx=>by subst x;rw[hb] at hi;cases hi)];exact hi
 have hcell:∀a v,w.cell? a=some v->World.cell? { w with heap:=w.heap.setIfInBounds r (.map es' c) } a=some v:=by
  intro a v ha;unfold World.cell? at ha⊢;split at ha
  .rename_i hh;simp only[hcells _ _ _ _ hh];exact ha
  .cases ha
 have hmg:∀j,(h.mJ m ⟨t,c,es⟩).jf j=if j=m then some ⟨t,c,es⟩ else h.jf j:=λj=>cQ _ _ _ _;refine⟨λi o hi=>?_,R.xh,R.nx,λb l hl=>?_,λb c1 g base e hb1=>?_,R.dW,R.oi,R.os,R.Ei,⟨λm' hm'=>?_,λm' r' hm'=>?_,R.mp.inj,λm' x1 hm'=>?_⟩⟩
 .simp only[hget];rw[if_neg (λx=>by subst x;rw[(R.mp.loc m i hm).1] at hi;cases hi)];exact R.nr i o hi
 .obtain⟨cc,fz,q1,q2⟩:=R.loc b l hl;exact⟨cc,fz,hcells _ _ _ _ q1,q2⟩
 .obtain⟨l,q1,q2,q3,q4,q5⟩:=R.live b c1 g base e hb1;exact⟨l,q1,q2,q3,q4,λi v hv=>let ⟨v',a,b⟩:=q5 i v hv;⟨v',hcell _ _ a,b⟩⟩
 .have q:=R.mp.xh m' hm';rw[hmg,if_neg (λx=>by subst x;rw[q.2] at hm;cases hm)];exact q
 .refine⟨(R.mp.loc m' r' hm').1,?_⟩;simp only[hget];by_cases e:r'=r
  .exact⟨es',c,by rw[if_pos e]⟩
  .rw[if_neg e];exact (R.mp.loc m' r' hm').2
 .rw[hmg] at hm';by_cases e:m'=m
  .subst e;rw[if_pos rfl] at hm';cases hm';exact⟨r,es',hm,by simp only[hget,if_true],hes⟩
  .rw[if_neg e] at hm';obtain⟨r',es2,q1,q2,q3⟩:=R.mp.live m' x1 hm';have hne:r'≠r:=λx=>by subst x;exact e (R.mp.inj m' m _ q1 hm)
   exact⟨r',es2,q1,by simp only[hget,if_neg hne];exact q2,q3⟩
theorem Ks (R:Rel P W0 ι h w){kt:TypeId}{m:Nat}(hx:At kt h=some (m,h1)) :
  ∃ι',ι.le ι'/\ι'.mp m=some w.heap.size/\Rel P W0 ι' h1 { w with heap:=w.heap.push (.map #[] 0) }:=by
 unfold At at hx;cases hx;have hd:=R.mp.xh h.next R.unused
 have hle:ι.le ⟨ι.f,λj=>if j=h.next then some w.heap.size else ι.mp j⟩:=by
  refine⟨λ_ _ x=>x,λm r hm=>?_⟩;have:m≠h.next:=λe=>by rw[e,hd.2] at hm;cases hm
  simp[this,hm]
 have hused:∀b,({ h.mJ h.next ⟨kt,0,[]⟩ with next:=h.next+1,used:=λj=>cond (Nat.beq j h.next) true (h.used j) }:af).used b=if b=h.next then true else h.used b:=λb=>cQ _ _ _ _
 have hus:∀b,({ h.mJ h.next ⟨kt,0,[]⟩ with next:=h.next+1,used:=λj=>cond (Nat.beq j h.next) true (h.used j) }:af).used b=false->b≠h.next/\h.used b=false:=λb hb=>by
  replace hb:=(hused b).symm.trans hb
  split at hb
  .cases hb
  .rename_i e;exact⟨e,hb⟩
 refine⟨_,hle,by simp,?_⟩;have hnone:W0 w.heap.size=none:=by
  cases hq:W0 w.heap.size with
  |none=>rfl
  |some o=>have:=(Array.getElem?_eq_some_iff.1 (R.nr _ o hq)).1;omega
 have hlt:∀(i:Nat) o,w.heap[i]?=some o->(w.heap.push (.map #[] 0))[i]?=some o:=λi o hi=>by
  have:=(Array.getElem?_eq_some_iff.1 hi).1;rw[afj,if_neg (by omega)];exact hi
 have hmg:∀j,(h.mJ h.next ⟨kt,0,[]⟩).jf j=if j=h.next then some ⟨kt,0,[]⟩ else h.jf j:=λj=>cQ _ _ _ _
 refine⟨λi o hi=>hlt _ _ (R.nr i o hi),λb hb=>R.xh b (hus b hb).2,λb hb=>?_,λb l hl=>?_,λb c1 g base e hb1=>?_,R.dW,λb c1 g base e hb1 hg=>?_,R.os,R.Ei,⟨λm' hm'=>?_,λm' r' hm'=>?_,λm1 m2 r h1 h2=>?_,λm' x1 hm'=>?_⟩⟩
 .have hb:h.next+1<=b:=hb
  refine (hused b).trans ?_;rw[if_neg (by omega)];exact R.nx b (by omega)
 .obtain⟨cc,fz,q1,q2⟩:=R.loc b l hl;exact⟨cc,fz,hlt _ _ q1,q2⟩
 .obtain⟨l,q1,q2,q3,q4,q5⟩:=R.live b c1 g base e hb1;exact⟨l,q1,q2,q3,q4,λi v hv=>let ⟨v',a,b,d⟩:=q5 i v hv;⟨v',Bo _ _ a,b,d.mono hle⟩⟩
 .obtain⟨q1,q2⟩:=R.oi b c1 g base e hb1 hg;refine⟨q1,(hused _).trans ?_⟩;split
  .rfl
  .exact q2
 .obtain⟨hne,hu⟩:=hus m' hm';refine⟨?_,?_⟩
  .refine (hmg m').trans ?_;rw[if_neg hne];exact (R.mp.xh m' hu).1
  .simp only[if_neg hne];exact (R.mp.xh m' hu).2
 .by_cases e:m'=h.next
  .simp only[if_pos e,aaM] at hm';subst hm';exact⟨hnone,#[],0,by simp⟩
  .simp only[if_neg e] at hm';obtain⟨q1,es,c,q2⟩:=R.mp.loc m' r' hm';exact⟨q1,es,c,hlt _ _ q2⟩
 .have nr:∀m r,ι.mp m=some r->r<w.heap.size:=λm r hm=>by
   obtain⟨_,es,c,q⟩:=R.mp.loc m r hm;exact (Array.getElem?_eq_some_iff.1 q).1
  by_cases e1:m1=h.next<;>by_cases e2:m2=h.next
  .rw[e1,e2]
  .simp only[if_pos e1,aaM] at h1;simp only[if_neg e2] at h2;have:=nr _ _ h2;omega
  .simp only[if_neg e1] at h1;simp only[if_pos e2,aaM] at h2;have:=nr _ _ h1;omega
  .simp only[if_neg e1] at h1;simp only[if_neg e2] at h2;exact R.mp.inj _ _ _ h1 h2
 .replace hm':=(hmg m').symm.trans hm'
  by_cases e:m'=h.next
  .rw[if_pos e] at hm';cases hm';exact⟨w.heap.size,#[],by simp[e],by simp,trivial⟩
  .rw[if_neg e] at hm';obtain⟨r',es2,q1,q2,q3⟩:=R.mp.live m' x1 hm';exact⟨r',es2,by simp[e,q1],hlt _ _ q2,q3.mono hle⟩
theorem FZ (R:Rel P W0 ι h w){k:Nat}{kt:TypeId}{m:Nat}(hx:uy k kt h=some (m,h1)) :
  ∃ι',ι.le ι'/\ι'.mp m=some w.heap.size/\Rel P W0 ι' h1 { w with heap:=w.heap.push (.map #[] 0) }:=by
 unfold uy at hx;split at hx
 case isFalse=>cases hx
 rename_i hk;simp only[aaM,aez] at hx;obtain⟨hkm,rfl⟩:=hx;subst hkm;have hd:=R.mp.xh k hk.1;have hle:ι.le ⟨ι.f,λj=>if j=k then some w.heap.size else ι.mp j⟩:=by
  refine⟨λ_ _ x=>x,λm' r hm=>?_⟩;have:m'≠k:=λe=>by rw[e,hd.2] at hm;cases hm
  simp[this,hm]
 have hused:∀b,(h.Mj k kt).used b=if b=k then true else h.used b:=λb=>cQ _ _ _ _;have hus:∀b,(h.Mj k kt).used b=false->b≠k/\h.used b=false:=λb hb=>by
  replace hb:=(hused b).symm.trans hb
  split at hb
  .cases hb
  .rename_i e;exact⟨e,hb⟩
 refine⟨_,hle,by simp,?_⟩;have hnone:W0 w.heap.size=none:=by
  cases hq:W0 w.heap.size with
  |none=>rfl
  |some o=>have:=(Array.getElem?_eq_some_iff.1 (R.nr _ o hq)).1;omega
 have hlt:∀(i:Nat) o,w.heap[i]?=some o->(w.heap.push (.map #[] 0))[i]?=some o:=λi o hi=>by
  have:=(Array.getElem?_eq_some_iff.1 hi).1;rw[afj,if_neg (by omega)];exact hi
 have hmg:∀j,(h.mJ k ⟨kt,0,[]⟩).jf j=if j=k then some ⟨kt,0,[]⟩ else h.jf j:=λj=>cQ _ _ _ _;refine⟨λi o hi=>hlt _ _ (R.nr i o hi),λb hb=>R.xh b (hus b hb).2,λb hb=>?_,λb l hl=>?_,λb c1 g base e hb1=>?_,R.dW,λb c1 g base e hb1 hg=>?_,R.os,R.Ei,⟨λm' hm'=>?_,λm' r' hm'=>?_,λm1 m2 r h1 h2=>?_,λm' x1 hm'=>?_⟩⟩
 .have hb:h.next<=b:=hb
  refine (hused b).trans ?_;rw[if_neg (by have:=hk.2;omega)];exact R.nx b hb
 .obtain⟨cc,fz,q1,q2⟩:=R.loc b l hl;exact⟨cc,fz,hlt _ _ q1,q2⟩
 .obtain⟨l,q1,q2,q3,q4,q5⟩:=R.live b c1 g base e hb1;exact⟨l,q1,q2,q3,q4,λi v hv=>let ⟨v',a,b,d⟩:=q5 i v hv;⟨v',Bo _ _ a,b,d.mono hle⟩⟩
 .obtain⟨q1,q2⟩:=R.oi b c1 g base e hb1 hg;refine⟨q1,(hused _).trans ?_⟩;split
  .rfl
  .exact q2
 .obtain⟨hne,hu⟩:=hus m' hm';refine⟨?_,?_⟩
  .refine (hmg m').trans ?_;rw[if_neg hne];exact (R.mp.xh m' hu).1
  .simp only[if_neg hne];exact (R.mp.xh m' hu).2
 .by_cases e:m'=k
  .simp only[if_pos e,aaM] at hm';subst hm';exact⟨hnone,#[],0,by simp⟩
  .simp only[if_neg e] at hm';obtain⟨q1,es,c,q2⟩:=R.mp.loc m' r' hm';exact⟨q1,es,c,hlt _ _ q2⟩
 .have nr:∀k r,ι.mp k=some r->r<w.heap.size:=λk r hm=>by
   obtain⟨_,es,c,q⟩:=R.mp.loc k r hm;exact (Array.getElem?_eq_some_iff.1 q).1
  by_cases e1:m1=k<;>by_cases e2:m2=k
  .rw[e1,e2]
  .simp only[if_pos e1,aaM] at h1;simp only[if_neg e2] at h2;have:=nr _ _ h2;omega
  .simp only[if_neg e1] at h1;simp only[if_pos e2,aaM] at h2;have:=nr _ _ h1;omega
  .simp only[if_neg e1] at h1;simp only[if_neg e2] at h2;exact R.mp.inj _ _ _ h1 h2
 .replace hm':=(hmg m').symm.trans hm'
  by_cases e:m'=k
  .rw[if_pos e] at hm';cases hm';exact⟨w.heap.size,#[],by simp[e],by simp,trivial⟩
  .rw[if_neg e] at hm';obtain⟨r',es2,q1,q2,q3⟩:=R.mp.live m' x1 hm';exact⟨r',es2,by simp[e,q1],hlt _ _ q2,q3.mono hle⟩
theorem aS.Ht {m:Option Nat}{v':Value}(hr:aS P ι (.map m) v'):(m=none/\v'=.map none)\/∃a r,m=some a/\v'=.map (some r)/\ι.mp a=some r:=by
 cases hr with
 |flat _ hf=>cases m with
  |none=>exact .inl ⟨rfl,rfl⟩
  |some a=>simp[cX] at hf
 |map a r hr=>exact .inr ⟨a,r,rfl,rfl,hr⟩
theorem vM {kt:TypeId}{m:Nat}{c:Nat}{es:List nh}(hx:h.uz kt m=some (c,es)):h.jf m=some ⟨kt,c,es⟩:=by
 unfold af.uz at hx;split at hx
 .rename_i x hg;split at hx
  .rename_i hb;cases hx;rw[hg,<-BY hb]
  .cases hx
 .cases hx
theorem Hu {t:Ty}{v:Value}{x:t.den}(hx:JQ t v=some x):v=Cg t x:=by
 cases t with
 |one l=>exact pC hx
 |agg ls=>
  cases v<;>simp only[JQ] at hx<;>try cases hx
  rename_i cs;rw[Cg,<-Bp hx]
theorem yq {kt:TypeId}{k:Value}(h:nq P kt k=true):∃d,P.underlying kt=some d:=by
 unfold nq at h;split at h
 .rename_i K hK;unfold JR at hK;split at hK
  .exact⟨_,by assumption⟩
  .exact⟨_,by assumption⟩
  .split at hK
   .rename_i l hl;obtain⟨_,⟨k,h1,_⟩|⟨h1,_⟩|⟨h1,_⟩⟩:=pE hl<;>exact⟨_,h1⟩
   .cases hK
 .cases h
theorem Hv (R:Rel P W0 ι h w){t k e:TypeId}(ht:P.underlying t=some (.map k e)){m:Option Nat}{x' kv kv':Value}(hm:aS P ι (.map m) x')(hk:nq P k kv=true)(hkr:aS P ι kv kv')
  {T:Ty} {zv:Value} (hz:zeroOf P e=some zv) {z:T.den} (huz:JQ T zv=some z) {ok:Bool} {r:Bool×T.den} (hx:wN k T z m kv h=some (r,h1)) :
  fC P W0 ι w (Instr.lookup t x' kv' ok) (match ok with|true=>.tuple #[Cg T r.2,.bool r.1] | false=>Cg T r.2) h1:=by
 have K:=Hr hk;obtain rfl:=(K.flat _ _ hkr).symm;obtain⟨d,hd⟩:=yq hk;obtain⟨_,hz1,_⟩:=gE hz;have hzz:=Hu huz;have hzf:aS P ι zv zv:=by
  obtain⟨q,_⟩:=gE hz;cases zv with
  |agg cs=>
   refine .agg _ _ rfl ?_;intro i u u' a b;rw[a] at b;cases b;exact .flat _ (List.all_eq_true.1 q u (by simpa[Value.cells] using afG a))
  |_=>exact .flat _ (by simpa[Value.cells] using q)
 have fin:∀(b:Bool) (x:T.den) (v':Value),aS P ι (Cg T x) v' ->
   aS P ι (match ok with|true=>.tuple #[Cg T x,.bool b] | false=>Cg T x) (if ok then .tuple #[v',.bool b] else v'):=by
  intro b x v' hv;cases ok
  .exact hv
  .refine .tuple _ _ rfl λi u u' a c=>?_
   match i with
   |0=>simp at a c;subst a;subst c;exact hv
   |1=>simp at a c;subst a;subst c;exact .ofBool
   |i+2=>simp at a
 unfold wN at hx;split at hx
 .cases hx;rcases hm.Ht with⟨_,rfl⟩|⟨a,r,h2,_⟩
  .have hfk:(Instr.findKey k kv #[].toList).run P w=.ok none w:=rU (es:=[]) hd K w (by simp);refine .ret (v':=if ok then .tuple #[zv,.bool false] else zv) ?_ (fin false z zv (by rw[<-hzz];exact hzf)) R;simp at hfk;cases ok<;>simp[Instr.lookup,aL ht,K.kG,hfk,hz1]
  .cases h2
 .rename_i m0;rcases hm.Ht with⟨h2,_⟩|⟨a,r0,h2,rfl,hr0⟩
  .cases h2
  .cases h2;split at hx
   .rename_i c es hes;obtain⟨r1,es',q1,q2,q3⟩:=R.mp.live _ _ (vM hes);rw[hr0] at q1;cases q1;have hfk:=rU (es:=es'.toList) hd K w q3.keys;have hgo:=MapKept.run_getObj_map (P:=P) q2;split at hx
    .rename_i v hv;split at hx
     .rename_i x hux;cases hx;unfold wM at hv;rcases rR.find kv 0 q3 with⟨h3,_⟩|⟨v1,v',j,h3,h4,h5,_⟩
      .rw[h3] at hv;cases hv
      .rw[h3] at hv;cases hv;rw[h4] at hfk;refine .ret (v':=if ok then .tuple #[v',.bool true] else v') ?_ (fin true x v' (by rw[<-Hu hux];exact h5)) R;cases ok<;>simp[Instr.lookup,aL ht,K.kG,hgo,hfk]
     .cases hx
    .rename_i hv;cases hx;unfold wM at hv;rcases rR.find kv 0 q3 with⟨h3,h4⟩|⟨v1,v',j,h3,h4,h5,_⟩
     .rw[h4] at hfk;refine .ret (v':=if ok then .tuple #[zv,.bool false] else zv) ?_ (fin false z zv (by rw[<-hzz];exact hzf)) R;cases ok<;>simp[Instr.lookup,aL ht,K.kG,hgo,hfk,hz1]
     .rw[h3] at hv;cases hv
   .cases hx
theorem wR (R:Rel P W0 ι h w){t k e:TypeId}(ht:P.underlying t=some (.map k e)){m:Option Nat}{x' kv kv' v v':Value}(hm:aS P ι (.map m) x')(hk:nq P k kv=true)(hkr:aS P ι kv kv')(hv:aS P ι v v')
  {u:Unit} (hx:Ch k m kv v h=some (u,h1)):∃w',(Instr.mapUpdate t x' kv' v').run P w=.ok () w'/\Rel P W0 ι h1 w':=by
 have K:=Hr hk;obtain rfl:=(K.flat _ _ hkr).symm;obtain⟨d,hd⟩:=yq hk;unfold Ch at hx;split at hx
 .cases hx
 .rename_i m0;rcases hm.Ht with⟨h2,_⟩|⟨a,r0,h2,rfl,hr0⟩
  .cases h2
  .cases h2;split at hx
   .rename_i c es hes;cases hx;obtain⟨r1,es',q1,q2,q3⟩:=R.mp.live _ _ (vM hes);rw[hr0] at q1;cases q1;have hfk:=rU (es:=es'.toList) hd K w q3.keys;have hgo:=MapKept.run_getObj_map (P:=P) q2;have hst:(Instr.keyThatStays kv kv).run P w=.ok kv w:=(by simp[Instr.keyThatStays,K.same]);rcases rR.find kv 0 q3 with⟨h3,h4⟩|⟨v1,v2,j,h3,h4,h5,h5b,e',h6,h7,h8,h9⟩
    .rw[h4] at hfk;have hes2:rR P ι k (px kv v c es) (es'.push { key:=kv,val:=v',born:=c }).toList:=(by simpa using rR.Hs hk hv 0 q3 h4);simp only at h3;simp only[h3];refine⟨{ w with heap:=w.heap.setIfInBounds r0 (.map (es'.push { key:=kv,val:=v',born:=c }) (c+1)) },?_,R.mJ hr0 q2 hes2⟩
     .simp[Instr.mapUpdate,aL ht,hgo,K.kG,hfk,MapKept.run_setObj_map _ q2]
    .rw[h4] at hfk;have h6':es'[j]?=some e':=(by simpa using h6);have hes2:rR P ι k (px kv v c es) (es'.modify j λe=>{ e with key:=kv,val:=v' }).toList:=by
      have:=rR.OW (c:=c) hk hv 0 j q3 h4;simpa using this
     simp only at h3;simp only[h3];refine⟨{ w with heap:=w.heap.setIfInBounds r0 (.map (es'.modify j λe=>{ e with key:=kv,val:=v' }) c) },?_,R.mJ hr0 q2 hes2⟩
     .simp[Instr.mapUpdate,aL ht,hgo,K.kG,hfk,MapKept.run_setObj_map _ q2,h6',h7,hst]
   .cases hx
theorem Es (R:Rel P W0 ι h w){t k e:TypeId}(ht:P.underlying t=some (.map k e)){m:Option Nat}{x' kv kv':Value}(hm:aS P ι (.map m) x')(hk:nq P k kv=true)(hkr:aS P ι kv kv')
  {T:Ty} {zv:Value} (hz:zeroOf P e=some zv) {z:T.den} (huz:JQ T zv=some z) {r:T.den×Nat} (hx:vH k T z m kv h=some (r,h1)) :
  fC P W0 ι w (Instr.mapEntry t x' kv') (.tuple #[Cg T r.1,.int .i64 r.2]) h1:=by
 have K:=Hr hk;obtain rfl:=(K.flat _ _ hkr).symm;obtain⟨d,hd⟩:=yq hk;obtain⟨_,hz1,_⟩:=gE hz;have hzz:=Hu huz;have hzf:aS P ι zv zv:=by
  obtain⟨q,_⟩:=gE hz;cases zv with
  |agg cs=>
   refine .agg _ _ rfl ?_;intro i u u' a b;rw[a] at b;cases b;exact .flat _ (List.all_eq_true.1 q u (by simpa[Value.cells] using afG a))
  |_=>exact .flat _ (by simpa[Value.cells] using q)
 have fin:∀(b:Nat) (x:T.den) (v':Value),aS P ι (Cg T x) v'->aS P ι (.tuple #[Cg T x,.int .i64 b]) (.tuple #[v',.int .i64 b]):=by
  intro b x v' hv;refine .tuple _ _ rfl λi u u' a c=>?_
  match i with
  |0=>simp at a c;subst a;subst c;exact hv
  |1=>simp at a c;subst a;subst c;exact .ofInt
  |i+2=>simp at a
 unfold vH at hx;split at hx
 .cases hx
 .rename_i m0;rcases hm.Ht with⟨h2,_⟩|⟨a,r0,h2,rfl,hr0⟩
  .cases h2
  .cases h2;split at hx
   .rename_i c es hes;obtain⟨r1,es',q1,q2,q3⟩:=R.mp.live _ _ (vM hes);rw[hr0] at q1;cases q1;have hfk:=rU (es:=es'.toList) hd K w q3.keys;have hgo:=MapKept.run_getObj_map (P:=P) q2;have hst:(Instr.keyThatStays kv kv).run P w=.ok kv w:=(by simp[Instr.keyThatStays,K.same]);split at hx
    .rename_i e0 hv;split at hx
     .rename_i x hux;cases hx;rcases rR.find kv 0 q3 with⟨h3,h4⟩|⟨v1,v2,j,h3,h4,h5,h5b,e',h6,h7,h8,h9⟩
      .rw[h3] at hv;cases hv
      .rw[h3] at hv;cases hv;rw[h4] at hfk;have h6':es'[j]?=some e':=(by simpa using h6);have hsame:es'.modify j (λe=>{ e with key:=kv })=es':=by
        apply adI;simpa using rR.Ko 0 j q3 h4
       refine⟨.tuple #[v2,.int .i64 e0.born],{ w with heap:=w.heap.setIfInBounds r0 (.map es' c) },ι,?_,fin _ _ _ (by rw[<-Hu hux];exact h5),?_,.refl _⟩
       .simp[Instr.mapEntry,aL ht,hgo,K.kG,hfk,MapKept.run_setObj_map _ q2,h6',h7,h8,hst,hsame,goInt]
       .have hid:w.heap.setIfInBounds r0 (.map es' c)=w.heap:=by
         apply agq;intro i;rw[adD];by_cases hi:r0=i
         .subst hi;rw[if_pos rfl,if_pos (Array.getElem?_eq_some_iff.1 q2).1,q2]
         .rw[if_neg hi]
        rw[hid];exact R
     .cases hx
    .rename_i hv;cases hx;rcases rR.find kv 0 q3 with⟨h3,h4⟩|⟨v1,v2,j,h3,h4,h5,h5b,e',h6,h7,h8,h9⟩
     .rw[h4] at hfk;refine⟨.tuple #[zv,.int .i64 c],{ w with heap:=w.heap.setIfInBounds r0 (.map (es'.push { key:=kv,val:=zv,born:=c }) (c+1)) },ι,?_,fin c z zv (by rw[<-hzz];exact hzf),R.mJ hr0 q2 ?_,.refl _⟩
      .simp[Instr.mapEntry,aL ht,hgo,K.kG,hfk,MapKept.run_setObj_map _ q2,hz1,goInt]
      .rw[<-hzz];simpa using rR.Hs hk hzf 0 q3 h4
     .rw[h3] at hv;cases hv
   .cases hx
theorem Bs (R:Rel P W0 ι h w){t:TypeId}{m:Option Nat}{x' v v':Value}{kk:IntKind}{st:Int}(hm:aS P ι (.map m) x')(hv:aS P ι v v')
  {u:Unit} (hx:vI m st v h=some (u,h1)):∃w',(Instr.entryStore t x' (.int kk st) v').run P w=.ok () w'/\Rel P W0 ι h1 w':=by
 unfold vI at hx;split at hx
 .cases hx
 .rename_i m0;rcases hm.Ht with⟨h2,_⟩|⟨a,r0,h2,rfl,hr0⟩
  .cases h2
  .cases h2;split at hx
   .rename_i x hes;split at hx
    .rename_i es hd hp;cases hx;obtain⟨r1,es',q1,q2,q3⟩:=R.mp.live _ _ hes;rw[hr0] at q1;cases q1;have hgo:=MapKept.run_getObj_map (P:=P) q2;obtain⟨j,h3,h4⟩:=rR.dQ hv q3 hp;have hst:((st.toNat:Nat):Int)=st:=agG (of_decide_eq_true hd);rw[hst] at h3;have h3':es'.findIdx? (λe=>(e.born:Int)==st)=some j:=by
      rw[<-afI (xs:=es'),List.findIdx?_toArray];exact h3
     refine⟨{ w with heap:=w.heap.setIfInBounds r0 (.map (es'.modify j λe=>{ e with val:=v' }) x.clock) },?_,R.mJ hr0 q2 ?_⟩
     .simp[Instr.entryStore,hgo,asInt,asIntOf,h3',MapKept.run_setObj_map _ q2]
     .simpa using h4
    .cases hx
   .cases hx
theorem Hw (R:Rel P W0 ι h w){t k e ty:TypeId}{ts:Array TypeId}(hts:ts[0]?=some t)(ht:P.underlying t=some (.map k e)){m:Option Nat}{x' kv kv':Value}(hm:aS P ι (.map m) x')(hk:nq P k kv=true)(hkr:aS P ι kv kv')
  {u:Unit} (hx:Te k m kv h=some (u,h1)):fC P W0 ι w (Builtin.delete_ ts ty #[x',kv']) (.tuple #[]) h1:=by
 have K:=Hr hk;obtain rfl:=(K.flat _ _ hkr).symm;obtain⟨d,hd⟩:=yq hk;unfold Te at hx;split at hx
 .cases hx;rcases hm.Ht with⟨_,rfl⟩|⟨a,r,h2,_⟩
  .refine .ret (v':=.tuple #[]) ?_ (.tuple _ _ rfl (by simp)) R;simp[Builtin.delete_,hts,aL ht,K.kG]
  .cases h2
 .rename_i m0;rcases hm.Ht with⟨h2,_⟩|⟨a,r0,h2,rfl,hr0⟩
  .cases h2
  .cases h2;split at hx
   .rename_i c es hes;cases hx;obtain⟨r1,es',q1,q2,q3⟩:=R.mp.live _ _ (vM hes);rw[hr0] at q1;cases q1;have hfk:=rU (es:=es'.toList) hd K w q3.keys;have hgo:=MapKept.run_getObj_map (P:=P) q2;rcases rR.find kv 0 q3 with⟨h3,h4⟩|⟨v1,v2,j,h3,h4,h5,h5b,e',h6,h7,h8,h9⟩
    .rw[h4] at hfk;refine⟨.tuple #[],{ w with heap:=w.heap.setIfInBounds r0 (.map es' c) },ι,?_,.tuple _ _ rfl (by simp),R.mJ hr0 q2 ?_,.refl _⟩
     .simp[Builtin.delete_,hts,aL ht,hgo,K.kG,hfk,MapKept.run_setObj_map _ q2]
     .rw[rR.Kq 0 q3 h4];exact q3
    .rw[h4] at hfk;refine⟨.tuple #[],{ w with heap:=w.heap.setIfInBounds r0 (.map (es'.eraseIdxIfInBounds j) c) },ι,?_,.tuple _ _ rfl (by simp),R.mJ hr0 q2 ?_,.refl _⟩
     .simp[Builtin.delete_,hts,aL ht,hgo,K.kG,hfk,MapKept.run_setObj_map _ q2]
     .have:=rR.Kr 0 j q3 h4;have hlt:j<es'.size:=(by simpa using (List.getElem?_eq_some_iff.1 h6).1);simpa[Array.eraseIdxIfInBounds,hlt] using this
   .cases hx
theorem Kt (R:Rel P W0 ι h w){t k e ty:TypeId}{ts:Array TypeId}(hts:ts[0]?=some t)(ht:P.underlying t=some (.map k e)){m:Option Nat}{x':Value}(hm:aS P ι (.map m) x')
  {n:Nat} (hx:Ci m h=some (n,h1)):fC P W0 ι w (Builtin.len_ ts ty #[x']) (.int .i64 n) h1:=by
 unfold Ci at hx;split at hx
 .cases hx;rcases hm.Ht with⟨_,rfl⟩|⟨a,r,h2,_⟩
  .exact .ret (v':=.int .i64 0) (by simp[Builtin.len_,hts,aL ht,goInt]) .ofInt R
  .cases h2
 .rename_i m0;rcases hm.Ht with⟨h2,_⟩|⟨a,r0,h2,rfl,hr0⟩
  .cases h2
  .cases h2;split at hx
   .rename_i x hes;cases hx;obtain⟨r1,es',q1,q2,q3⟩:=R.mp.live _ _ hes;rw[hr0] at q1;cases q1;have hl:=q3.length;refine .ret (v':=.int .i64 x.es.length) ?_ .ofInt R;have hgo:=MapKept.run_getObj_map (P:=P) q2;simp at hl;simp[Builtin.len_,hts,aL ht,goInt,hgo,hl]
   .cases hx
theorem Ku (R:Rel P W0 ι h w){t e ty:TypeId}{ts:Array TypeId}(hts:ts[0]?=some t)(ht:P.underlying t=some (.slice e)){z:Nat}(hz:bS P e=some z){a:Option Addr}{n c:Nat}{a2:Option Addr}{n2 c2:Nat}{x' y':Value}
  (hd:aS P ι (.slice a n c) x') (hs:aS P ι (.slice a2 n2 c2) y') {k:Nat} (hx:wO ⟨a,n,c⟩ ⟨a2,n2,c2⟩ z h=some (k,h1)) :
  fC P W0 ι w (Builtin.copy_ ts ty #[x',y']) (.int .i64 k) h1:=by
 have src:∀cs,aX h a2 (Nat.min n2 n*z)=some cs->∃cs',bA P ι cs cs'/\(Builtin.firstCells z (Nat.min n2 n) y').run P w=.ok cs'.toArray w/\(∀v∈cs,eQ v=true):=by
  intro cs hc;cases hs with
  |flat _ hf=>
   cases a2 with
   |some a=>simp[cX] at hf
   |none=>
    simp[aX] at hc;obtain⟨h0,rfl⟩:=hc;exact⟨[],.nil,by simp[Builtin.firstCells],by simp⟩
  |slice b b' n c c' l e1 e2 e3 e4 e5 e6 e7 e8=>
   obtain⟨cs',q1,q2,q3,q4,q5⟩:=rF R ⟨e1,e2,l,e3,e4,e5⟩ hc;exact⟨cs',q1,by simpa[Builtin.firstCells] using q4,q3⟩
  |jg b b' c hce=>
   have:cs=[]:=by
    simp[aX] at hc;split at hc
    .simp at hc;exact hc.2
    .cases hc
   subst this;exact⟨[],.nil,by simp[Builtin.firstCells,loadCells,loadCellsFrom],by simp⟩
 obtain⟨y2,c3,hy2,_⟩:=hs.slO;obtain⟨x2,c4,hx2,hxn⟩:=hd.slO;have hlen:(Builtin.lenOf y').run P w=.ok n2 w:=by rw[hy2];simp[Builtin.lenOf]
 unfold wO at hx;split at hx
 .rename_i hc;cases hx;obtain⟨cs',q1,q2,_⟩:=src _ hc;have:cs'=[]:=by have:=q1.1;simp at this;exact abn this.symm
  subst this;refine .ret (v':=.int .i64 (Nat.min n2 n)) ?_ .ofInt R;subst hx2;cases x2<;>simp[Builtin.copy_,hts,aL ht,hlen,iO hz,q2,storeCells,goInt]
 .rename_i cs hne hc;split at hx
  .cases hx
  .rename_i b hb;split at hx
   .rename_i u h2 hst;cases hx;obtain⟨cs',q1,q2,_⟩:=src _ hc;have hb:a=some b:=hb;subst hb;cases hd with
    |flat _ hf=>simp[cX] at hf
    |slice _ b' n c c' l e1 e2 e3 e4 e5 e6 e7 e8=>
     obtain⟨w',hr,R'⟩:=Bq R ⟨e1,e2,l,e3,e4,e5⟩ q1 hst;refine⟨.int .i64 (Nat.min n2 n),w',ι,?_,.ofInt,R',.refl _⟩;simp[Builtin.copy_,hts,aL ht,hlen,iO hz,q2,goInt,hr]
    |jg _ b' c hce=>
     exfalso;have:cs=[]:=by
      have:Nat.min n2 0*z=0:=(by simp);rw[this] at hc;unfold aX at hc;split at hc
      .simp at hc;exact hc
      .split at hc
       .split at hc
        .simp at hc;exact hc
        .cases hc
       .cases hc
     exact hne this
   .cases hx
 .cases hx
end Go.Ago
