
import Derived.Test.YtengdffgmpghgaaGreatDoorAgoD
import Derived.ChangeKeysEq
set_option linter.all false
namespace Go.Ago
open Go
variable {P:Program}{W0:Fz}{ι ι':eg}{h h' h1:ab}{w w':World}
theorem Ek {l:eD}{v:ξ}(h:iH l v=true):dz v=true:=by
 cases l<;>cases v<;>simp_all[iH,dz]
theorem qi {t:κ}{l:eD}(h:ue P t=some l):bX P t=some 1 /\
  ((∃k,P.underlying t=some (.int k)/\l=.int k)\/(P.underlying t=some .bool/\l=.bool)\/(P.underlying t=some .string/\l=.str)):=by
 unfold ue at h
 grind
theorem uO {k:IntKind}{v:ξ}(h:iH (.int k) v=true):∃n,v=.int k n:=by
 cases v<;>simp only[iH] at h<;>try cases h
 rename_i k' n;exact⟨n,by rw[Jh h]⟩
theorem s7 {v:ξ}(h:iH .bool v=true):∃n,v=.bool n:=by
 cases v<;>simp only[iH] at h<;>try cases h
 exact⟨_,rfl⟩
theorem uP {v:ξ}(h:iH .str v=true):∃n,v=.string n:=by
 cases v<;>simp only[iH] at h<;>try cases h
 exact⟨_,rfl⟩
theorem MW (k:IntKind):OT k k=true:=by cases k<;>rfl
theorem Ba {t:κ}{l:eD}(h:ue P t=some l){v u:ξ}(hv:iH l v=true)(hu:iH l u=true)(d:Nat)(w:World) :
  (Op.equalIn (d+1) t v u).run P w=.ok (Da v u) w:=by
 obtain⟨_,⟨k,h1,rfl⟩|⟨h1,rfl⟩|⟨h1,rfl⟩⟩:=qi h
 .obtain⟨a,rfl⟩:=uO hv;obtain⟨b,rfl⟩:=uO hu;rw[run_equalIn_int w d t _ _ _ _ h1];simp only[Da,MW,aj5];rfl
 .obtain⟨a,rfl⟩:=s7 hv;obtain⟨b,rfl⟩:=s7 hu;exact run_equalIn_bool w d t _ _ h1
 .obtain⟨a,rfl⟩:=uP hv;obtain⟨b,rfl⟩:=uP hu;rw[run_equalIn_string w d t _ _ h1,<-qf];rfl
theorem wg {t:κ}{l:eD}(h:ue P t=some l){v:ξ}(hv:iH l v=true)(em:Bool)(n:Nat)(w:World) :
  (Instr.checkKey em (n+1) t v).run P w=.ok () w:=by
 obtain⟨_,⟨k,h1,rfl⟩|⟨h1,rfl⟩|⟨h1,rfl⟩⟩:=qi h
 .obtain⟨a,rfl⟩:=uO hv;simp[Instr.checkKey,aR h1]
 .obtain⟨a,rfl⟩:=s7 hv;simp[Instr.checkKey,aR h1]
 .obtain⟨a,rfl⟩:=uP hv;simp[Instr.checkKey,aR h1]
theorem ov {t:κ}{l:eD}(h:ue P t=some l){xs:ν}{o:Nat}{v:ξ}(hx:xs[o]?=some v)(w:World):(part t xs o).run P w=.ok v w:=by
 obtain⟨_,⟨k,h1,rfl⟩|⟨h1,rfl⟩|⟨h1,rfl⟩⟩:=qi h<;>exact Gi h1 rfl hx w
theorem Ru {v u:ξ}(h:Da v u=true):v=u:=by
 cases v<;>cases u<;>simp only[Da,aag,OF] at h<;>try cases h
 .rename_i a b;simp at h;rw[h]
 .rename_i h1 h2;rw[Jh h1,h2]
 .rename_i a b;rw[qf] at h;have h:=beq_iff_eq.1 h;rw[ByteArray.toList_eq,ByteArray.toList_eq] at h;cases a;cases b;simp at h;rw[h]
theorem Rv:∀{xs ys:δ},Ap xs ys=true->xs=ys
 |[],[],_=>rfl
 |[],_::_,h=>by cases h
 |_::_,[],h=>by cases h
 |x::xs,y::ys,h=>by
  simp only[Ap,aag] at h;rw[Ru h.1,Rv h.2]
theorem O8 {x y:ξ}(h:y5 x y=true):x=y:=by
 unfold y5 at h
 grind [Rv,Array.toList_inj,Ru]
theorem MX {xs ys:ν}:∀(fs:List Field) (o:Nat) (ls:List eD) (d:Nat) (w:World),Gb P fs o=some ls->fF ls (xs.toList.drop o)=true->fF ls (ys.toList.drop o)=true ->
  (Op.eqFields (d+1) xs ys fs).run P w=.ok (Ap (xs.toList.drop o) (ys.toList.drop o)) w
 |[],o,ls,d,w,h,hx,hy=>by
  simp only[Gb,aai] at h;subst h;cases h1:xs.toList.drop o with
  |cons=>rw[h1] at hx;simp[fF] at hx
  |nil=>
   cases h2:ys.toList.drop o with
   |cons=>rw[h2] at hy;simp[fF] at hy
   |nil=>simp[Op.eqFields,Ap]
 |f::fs,o,ls,d,w,h,hx,hy=>by
  simp only[Gb] at h;split at h
  .rename_i l ls' hn ho hl hr;cases h;have ho:=IS ho;have hn : f.name ≠ "_" := by intro e; rw[e] at hn; exact absurd hn (by decide)
   cases h1:xs.toList.drop o with
   |nil=>rw[h1] at hx;simp[fF] at hx
   |cons x xs'=>
    cases h2:ys.toList.drop o with
    |nil=>rw[h2] at hy;simp[fF] at hy
    |cons y ys'=>
     rw[h1] at hx;rw[h2] at hy;simp only[fF,aag] at hx hy;have hx0:xs[o]?=some x:=by
      rw[<-ae5,<-ai3 o,<-aeY,h1];rfl
     have hy0:ys[o]?=some y:=by
      rw[<-ae5,<-ai3 o,<-aeY,h2];rfl
     have hxt:xs.toList.drop (o+1)=xs':=(by rw[<-aha,h1];rfl);have hyt:ys.toList.drop (o+1)=ys':=(by rw[<-aha,h2];rfl);have ih:=MX (xs:=xs) (ys:=ys) fs (o+1) ls' d w hr (by rw[hxt];exact hx.2) (by rw[hyt];exact hy.2);rw[hxt,hyt] at ih;unfold Op.eqFields;rw[By hn,ho];simp only[Sem.run_bind,ov hl hx0,ov hl hy0,Result.andThen_ok,Ba hl hx.1 hy.1 d w,Ap];cases Da x y
     .simp
     .simp[ih]
  .cases h
theorem Em {xs:ν}(em:Bool)(n:Nat):∀(fs:List Field) (o:Nat) (ls:List eD),Gb P fs o=some ls->fF ls (xs.toList.drop o)=true ->
  ∀w,(forIn fs PUnit.unit (λf (_:PUnit)=>(do
    if f.name ≠ "_" then Instr.checkKey em (n+1) f.type (<-part f.type xs f.offset)
    pure (ForInStep.yield PUnit.unit):Sem (ForInStep PUnit)))).run P w=.ok PUnit.unit w
 |[],o,ls,h,hx,w=>by simp
 |f::fs,o,ls,h,hx,w=>by
  simp only[Gb] at h;split at h
  .rename_i l ls' hn ho hl hr;cases h;have ho:=IS ho;have hn : f.name ≠ "_" := by intro e; rw[e] at hn; exact absurd hn (by decide)
   cases h1:xs.toList.drop o with
   |nil=>rw[h1] at hx;simp[fF] at hx
   |cons x xs'=>
    rw[h1] at hx;simp only[fF,aag] at hx;have hx0:xs[o]?=some x:=by
     rw[<-ae5,<-ai3 o,<-aeY,h1];rfl
    have hxt:xs.toList.drop (o+1)=xs':=(by rw[<-aha,h1];rfl);have ih:=Em (xs:=xs) em n fs (o+1) ls' hr (by rw[hxt];exact hx.2) w;rw[List.forIn_cons];simp only[hn,ne_eq,not_false_eq_true,ai8,Sem.run_bind,ho,ov hl hx0,Result.andThen_ok,wg hl hx.1,Sem.run_pure];simpa using ih
  .cases h
theorem wh {l:eD}:∀{n:Nat} {xs:δ},fF (List.replicate n l) xs=true->xs.length=n/\∀v∈xs,iH l v=true
 |0,[],_=>⟨rfl,by simp⟩
 |0,_::_,h=>by cases h
 |n+1,[],h=>by cases h
 |n+1,x::xs,h=>by
  rw[aiK] at h;simp only[fF,aag] at h;obtain⟨h1,h2⟩:=wh h.2
  grind
theorem IE {e:κ}{l:eD}(hl:ue P e=some l){xs ys:ν}(hx:∀v∈xs.toList,iH l v=true)(hy:∀v∈ys.toList,iH l v=true)(d:Nat)(w:World) :
  ∀(k o:Nat),xs.size=o+k->ys.size=o+k->(Op.eqItems (d+1) e 1 xs ys (List.range' o k)).run P w=.ok (Ap (xs.toList.drop o) (ys.toList.drop o)) w
 |0,o,h1,h2=>by
  have e1:xs.toList.drop o=[]:=aaf (by simp;omega);have e2:ys.toList.drop o=[]:=aaf (by simp;omega);simp[Op.eqItems,e1,e2,Ap]
 |k+1,o,h1,h2=>by
  have ih:=IE hl hx hy d w k (o+1) (by omega) (by omega);have l1:o<xs.toList.length:=by simp;omega
  have l2:o<ys.toList.length:=by simp;omega
  rw[ahR l1,ahR l2,aj7,Op.eqItems];have p1:xs[o*1]?=some xs.toList[o]:=by grind
  have p2:ys[o*1]?=some ys.toList[o]:=by grind
  simp only[Sem.run_bind,ov hl p1,ov hl p2,Result.andThen_ok,Ba hl (hx _ (aiO l1)) (hy _ (aiO l2)) d w,Ap];cases Da xs.toList[o] ys.toList[o]
  .simp
  grind
theorem Gl {l:eD}{v:ξ}(h:Tn (.one l) v=true):iH l v=true:=by
 unfold Tn at h;exact h
theorem wO {ls:List eD}{v:ξ}(h:Tn (.agg ls) v=true):∃cs,v=.agg cs/\fF ls cs.toList=true:=by
 cases v<;>simp only[Tn] at h<;>try cases h
 exact⟨_,rfl,h⟩
theorem Rw {l:eD}{v u:ξ}(h:iH l v=true):y5 v u=Da v u:=by
 cases v<;>first|rfl|(cases l<;>simp[iH] at h)
structure Jl (P:Program) (t:κ) (x:ξ):Prop where
 eq:∀y,o7 P t y=true->∀w,(Op.equal t x y).run P w=.ok (y5 x y) w
 oo:∀em w,(Instr.checkKey em 10000 t x).run P w=.ok () w
 same:Instr.sameBits 10000 x x=true
 now:∀y,o7 P t y=true->∀kd,Instr.sameNow kd x y=none\/Instr.sameNow kd x y=some (y5 x y)
 flat:∀ι v',aN P ι x v'->v'=x
theorem En {l:eD}{v:ξ}(h:iH l v=true)(n:Nat):Instr.sameBits n v v=true:=by
 cases l<;>cases v<;>simp_all[iH,Instr.sameBits,beq_toListBytes]
theorem Wy {l:eD}{v u:ξ}(h:iH l v=true)(hu:iH l u=true)(kd:TypeDesc):Instr.sameNow kd v u=none\/Instr.sameNow kd v u=some (Da v u):=by
 cases l with
 |int k=>
  obtain⟨a,rfl⟩:=uO h;obtain⟨b,rfl⟩:=uO hu;cases kd<;>first|exact .inl rfl|skip
  right;simp only[Instr.sameNow,ai8,Da,MW,aj5];rfl
 |bool=>
  obtain⟨a,rfl⟩:=s7 h;obtain⟨b,rfl⟩:=s7 hu;cases kd<;>first|exact .inl rfl|exact .inr rfl
 |str=>
  obtain⟨a,rfl⟩:=uP h;obtain⟨b,rfl⟩:=uP hu;cases kd<;>first|exact .inl rfl|skip
  right;simp only[Instr.sameNow];rw[beq_toListBytes,<-qf];rfl
 |_=>cases v<;>simp[iH] at h
theorem qj:∀{ls:List eD} {vs:δ},fF ls vs=true->∀v∈vs,dz v=true/\∃l,iH l v=true
 |[],[],_=>by simp
 |[],_::_,h=>by cases h
 |_::_,[],h=>by cases h
 |l::ls,v::vs,h=>by
  simp only[fF,aag] at h;intro u hu;rcases List.mem_cons.1 hu with rfl|hu
  .exact⟨Ek h.1,l,h.1⟩
  .exact qj h.2 u hu
theorem MY {ls:List eD}{cs:ν}(h:fF ls cs.toList=true)(n:Nat):Instr.sameBits (n+1) (.agg cs) (.agg cs)=true:=by
 simp only[Instr.sameBits,aag,beq_self_eq_true,ahP,agn];intro p hp;have hz:∀(l:δ) (p:ξ×ξ),p∈l.zip l->p.1=p.2/\p.1∈l:=by
  intro l
  induction l with
  |nil=>intro p hp;simp at hp
  |cons a l ih=>
   intro p hp;rw[List.zip_cons_cons] at hp
   grind
 obtain⟨e,hm⟩:=hz _ p hp;obtain⟨_,l,hl⟩:=qj h _ hm
 grind [En]
theorem O9 {t:κ}{x:ξ}(hx:o7 P t x=true):Jl P t x:=by
 have hx0:=hx;unfold o7 at hx;split at hx
 .rename_i K hK;have hy0:∀y,o7 P t y=true->Tn K y=true:=λy hy=>by unfold o7 at hy;rw[hK] at hy;exact hy
  unfold Mx at hK;split at hK
  ·-- struct
   rename_i fs hu;split at hK
   .rename_i ls hst hfs;cases hK;obtain⟨cs,rfl,hc⟩:=wO hx;refine⟨λy hy w=>?_,λem w=>?_,MY hc _,λy hy kd=>?_,λι v' hr=>hr.Rt λv hv=>(qj hc v hv).1⟩
    .obtain⟨ds,rfl,hd⟩:=wO (hy0 y hy);have hff:P.fieldsOf t=fs:=(by unfold Program.fieldsOf;rw[hu]);have:=run_equalIn_struct (P:=P) w 9999 t cs ds (by rw[hff];exact hu) hst;unfold Op.equal Op.maxDepth;rw[this,hff];have:=MX (xs:=cs) (ys:=ds) fs.toList 0 ls 9998 w hfs hc hd;simpa[y5] using this
    .show (Instr.checkKey em (9999+1) t (.agg cs)).run P w=_;rw[Instr.checkKey];simp only[Sem.run_bind,aR hu,Result.andThen_ok];rw[<-Array.forIn_toList];have:=Em (P:=P) (xs:=cs) em 9998 fs.toList 0 ls hfs hc w;simp at this;simp[this]
    .obtain⟨ds,rfl,hd⟩:=wO (hy0 y hy);cases kd<;>exact .inl rfl
   .cases hK
  ·-- array
   rename_i n e hu;split at hK
   .rename_i l hl;cases hK;obtain⟨cs,rfl,hc⟩:=wO hx;obtain⟨hs1,_⟩:=qi hl;obtain⟨i,hi,hsz⟩:∃i,P.info? e=some i/\i.size=1:=by
     grind [bX,Option.some.inj]
    have hco:P.cellsOf e=1:=(by simp[Program.cellsOf,hi,hsz]);obtain⟨hn,hall⟩:=wh hc;refine⟨λy hy w=>?_,λem w=>?_,MY hc _,λy hy kd=>?_,λι v' hr=>hr.Rt λv hv=>(qj hc v hv).1⟩
    .obtain⟨ds,rfl,hd⟩:=wO (hy0 y hy);obtain⟨hn2,hall2⟩:=wh hd;unfold Op.equal Op.maxDepth;rw[run_equalIn_array w 9999 cs ds hu hi,hco,List.range_eq_range']
     grind [IE,y5]
    .show (Instr.checkKey em (9999+1) t (.agg cs)).run P w=_;rw[Instr.checkKey];simp only[Sem.run_bind,aR hu,Result.andThen_ok];simp only[Std.Legacy.Range.forIn_eq_forIn_range',Std.Legacy.Range.size,Nat.sub_zero,Nat.add_one_sub_one,Nat.div_one];have key:∀(k o:Nat),o+k<=cs.size->(forIn (List.range' o k) PUnit.unit (λi (_:PUnit)=>(do
       Instr.checkKey em 9999 e (<-part e cs (i*(<-sizeOf e)))
       pure (ForInStep.yield PUnit.unit):Sem (ForInStep PUnit)))).run P w=.ok PUnit.unit w:=by
      intro k
      induction k with
      |zero=>intro o _;simp
      |succ k ih=>
       intro o ho;have lt:o<cs.toList.length:=(by simp;omega);have p1:cs[o*1]?=some cs.toList[o]:=(by grind);rw[aj7,List.forIn_cons];simp only[Sem.run_bind,kK hs1,Result.andThen_ok,ov hl p1,wg hl (hall _ (aiO lt)),Sem.run_pure];exact ih (o+1) (by omega)
     simp_all
    .obtain⟨ds,rfl,hd⟩:=wO (hy0 y hy);cases kd<;>exact .inl rfl
   .cases hK
  .split at hK
   .rename_i l hl;cases hK;have hx:=Gl hx;refine⟨λy hy w=>?_,λem w=>?_,En hx _,λy hy kd=>?_,λι v' hr=>hr.Jj (Ek hx)⟩
    .rw[Rw hx];exact Ba hl hx (Gl (hy0 y hy)) 9999 w
    .exact wg hl hx em 9999 w
    grind [Rw,Wy,Gl]
   .cases hK
 .cases hx
def rN (k:ξ):List MapEntry->Nat->Option (Nat×ξ)
 |[],_=>none
 |e::r,i=>match y5 k e.key with
  |true=>some (i,e.val)
  |false=>rN k r (i+1)
theorem findNow_spec {t:κ}{k:ξ}(hk:Jl P t k)(kd:TypeDesc):∀(es:List MapEntry) (i:Nat),(∀e∈es,o7 P t e.key=true) ->
  Instr.findNow kd k es i=none\/Instr.findNow kd k es i=some (rN k es i)
 |[],i,_=>.inr rfl
 |e::es,i,h=>by
  simp only[Instr.findNow,rN];rcases hk.now e.key (h e (IT ..)) kd with h1|h1
  .rw[h1];exact .inl rfl
  .rw[h1];cases y5 k e.key
   .exact findNow_spec hk kd es (i+1) λe he=>h e (IN _ he)
   .exact .inr rfl
theorem zd {t:κ}{k:ξ}(hk:Jl P t k)(w:World):∀(es:List MapEntry) (i:Nat),(∀e∈es,o7 P t e.key=true) ->
  (Instr.findAsking t k es i).run P w=.ok (rN k es i) w
 |[],i,_=>by simp[Instr.findAsking,rN]
 |e::es,i,h=>by
  have ih:=zd hk w es (i+1) λe he=>h e (IN _ he);simp only[Instr.findAsking,rN,Sem.run_bind,hk.eq e.key (h e (IT ..)) w,Result.andThen_ok];cases y5 k e.key
  .simpa using ih
  .simp
theorem vJ {t:κ}{k:ξ}{d:TypeDesc}(hd:P.underlying t=some d)(hk:Jl P t k)(w:World){es:List MapEntry}(h:∀e∈es,o7 P t e.key=true) :
  (Instr.findKey t k es).run P w=.ok (rN k es 0) w:=by
 simp only[Instr.findKey,Sem.run_bind,aR hd,Result.andThen_ok];rcases findNow_spec hk d es 0 h with h1|h1
 .rw[h1];exact zd hk w es 0 h
 .rw[h1];simp
theorem we.keys {t:κ}:∀{es:List o6} {es':List MapEntry},we P ι t es es'->∀e∈es',o7 P t e.key=true
 |[],[],_=>by simp
 |[],_::_,h=>h.elim
 |_::_,[],h=>h.elim
 |e::r,e'::r',h=>λx hx=>by
  rcases List.mem_cons.1 hx with rfl|hx
  .rw[h.1];exact h.2.1
  .exact we.keys h.2.2.2.2 x hx
theorem we.length {t:κ}:∀{es:List o6} {es':List MapEntry},we P ι t es es'->es.length=es'.length
 |[],[],_=>rfl
 |[],_::_,h=>h.elim
 |_::_,[],h=>h.elim
 |e::r,e'::r',h=>by simp[we.length h.2.2.2.2]
theorem we.find {t:κ}(k:ξ):∀{es:List o6} {es':List MapEntry} (i:Nat),we P ι t es es' ->
  (gf k es=none/\rN k es' i=none)\/∃e v' j,gf k es=some e/\rN k es' i=some (i+j,v')/\aN P ι e.val v'/\e.key=k/\∃e',es'[j]?=some e'/\e'.key=k/\e'.born=e.born/\e'.val=v'
 |[],[],i,_=>.inl ⟨rfl,rfl⟩
 |[],_::_,_,h=>h.elim
 |_::_,[],_,h=>h.elim
 |e::r,e'::r',i,h=>by
  simp only[gf,rN,h.1];cases hv:y5 k e.key
  .rcases we.find k (i+1) h.2.2.2.2 with⟨h1,h2⟩|⟨v,v',j,h1,h2,h3,h3b,e2,h4,h5⟩
   .exact .inl ⟨h1,h2⟩
   .exact .inr ⟨v,v',j+1,h1,by rw[show i+(j+1)=i+1+j by omega];exact h2,h3,h3b,e2,by simpa using h4,h5⟩
  .exact .inr ⟨_,_,0,rfl,rfl,h.2.2.1,(O8 hv).symm,e',rfl,by rw[h.1,O8 hv],h.2.2.2.1,rfl⟩
theorem we.Jm {t:κ}{k v v':ξ}{c:Nat}(hk:o7 P t k=true)(hv:aN P ι v v'):∀{es:List o6} {es':List MapEntry} (i:Nat),we P ι t es es'->rN k es' i=none ->
  we P ι t (qb k v c es) (es'++[{ key:=k,val:=v',born:=c }])
 |[],[],i,_,_=>⟨rfl,hk,hv,rfl,trivial⟩
 |[],_::_,_,h,_=>h.elim
 |_::_,[],_,h,_=>h.elim
 |e::r,e'::r',i,h,hf=>by
  simp only[rN,h.1] at hf;simp only[qb];cases hq:y5 k e.key
  .rw[hq] at hf;exact⟨h.1,h.2.1,h.2.2.1,h.2.2.2.1,we.Jm hk hv (i+1) h.2.2.2.2 hf⟩
  .rw[hq] at hf;cases hf
theorem Gm {k:ξ}:∀(l:List MapEntry) (a b:Nat) (u:ξ),rN k l a=some (b,u)->a<=b
 |[],a,b,u,h=>by cases h
 |x::l,a,b,u,h=>by
  simp only[rN] at h;split at h
  .cases h;omega
  .have:=Gm l _ _ _ h;omega
theorem we.Rx {t:κ}{k v v' u:ξ}{c:Nat}(hk:o7 P t k=true)(hv:aN P ι v v'):∀{es:List o6} {es':List MapEntry} (i j:Nat),we P ι t es es'->rN k es' i=some (i+j,u) ->
  we P ι t (qb k v c es) (es'.modify j λe=>{ e with key:=k,val:=v' })
 |[],[],i,j,_,hf=>by cases hf
 |[],_::_,_,_,h,_=>h.elim
 |_::_,[],_,_,h,_=>h.elim
 |e::r,e'::r',i,j,h,hf=>by
  simp only[rN,h.1] at hf;simp only[qb];cases hq:y5 k e.key
  .rw[hq] at hf;simp only at hf;have:=Gm _ _ _ _ hf;obtain⟨j,rfl⟩:∃q,j=q+1:=⟨j-1,by omega⟩;have:=we.Rx (u:=u) (c:=c) hk hv (i+1) j h.2.2.2.2 (by rw[hf];congr 2;omega);simpa using⟨h.1,h.2.1,h.2.2.1,h.2.2.2.1,this⟩
  .rw[hq] at hf;simp only[aai,aiJ] at hf;obtain rfl:j=0:=by omega
   rw[akV];exact⟨rfl,hk,hv,h.2.2.2.1,h.2.2.2.2⟩
theorem we.M0 {t:κ}{k u:ξ}:∀{es:List o6} {es':List MapEntry} (i j:Nat),we P ι t es es'->rN k es' i=some (i+j,u) ->
  es'.modify j (λe=>{ e with key:=k })=es'
 |[],[],i,j,_,hf=>by cases hf
 |[],_::_,_,_,h,_=>h.elim
 |_::_,[],_,_,h,_=>h.elim
 |e::r,e'::r',i,j,h,hf=>by
  simp only[rN,h.1] at hf;cases hq:y5 k e.key
  .rw[hq] at hf;simp only at hf;have:=Gm _ _ _ _ hf;obtain⟨j,rfl⟩:∃q,j=q+1:=⟨j-1,by omega⟩;have:=we.M0 (u:=u) (i+1) j h.2.2.2.2 (by rw[hf];congr 2;omega);simpa using this
  .rw[hq] at hf;simp only[aai,aiJ] at hf;obtain rfl:j=0:=by omega
   rw[akV,O8 hq,<-h.1]
theorem we.cS {t:κ}{v v':ξ}{b:Nat}(hv:aN P ι v v'):∀{es es2:List o6} {es':List MapEntry},we P ι t es es'->Iy b v es=some es2 ->
  ∃j,es'.findIdx? (λe=>(e.born:Int)==(b:Int))=some j/\we P ι t es2 (es'.modify j λe=>{ e with val:=v' })
 |[],_,[],_,hf=>by cases hf
 |[],_,_::_,h,_=>h.elim
 |_::_,_,[],h,_=>h.elim
 |e::r,es2,e'::r',h,hf=>by
  simp only[Iy] at hf;have hb:((e'.born:Int)==(b:Int))=Nat.beq e.born b:=by
   rw[h.2.2.2.1,akN,beq_iff_eq];constructor
   .intro e1;have:e.born=b:=(by omega);rw[this];exact ahN b
   .intro e1;rw[IS e1]
  rw[List.findIdx?_cons,hb];cases hq:Nat.beq e.born b
  .rw[hq] at hf;simp only at hf;split at hf
   .rename_i l hl;cases hf;obtain⟨j,h1,h2⟩:=we.cS hv h.2.2.2.2 hl;refine⟨j+1,by simp[h1],?_⟩;simpa using⟨h.1,h.2.1,h.2.2.1,h.2.2.2.1,h2⟩
   .cases hf
  .rw[hq] at hf;cases hf;exact⟨0,by simp,by simpa using⟨h.1,h.2.1,hv,h.2.2.2.1,h.2.2.2.2⟩⟩
theorem Rel.nu (R:Rel P W0 ι h w){m r:Nat}{t:κ}{es:List o6}{es0 es':Array MapEntry}{c0 c:Nat}(hm:ι.mp m=some r)(hb:w.heap[r]?=some (.map es0 c0))
  (hes:we P ι t es es'.toList):Rel P W0 ι (h.nu m ⟨t,c,es⟩) { w with heap:=w.heap.setIfInBounds r (.map es' c) }:=by
 have hr:=(Array.getElem?_eq_some_iff.1 hb).1;have hget:∀i:Nat,(w.heap.setIfInBounds r (.map es' c))[i]?=if i=r then some (.map es' c) else w.heap[i]?:=λi=>by
  grind
 have hcells:∀(i:Nat) cc e fz,w.heap[i]?=some (.cells cc e fz)->(w.heap.setIfInBounds r (.map es' c))[i]?=some (.cells cc e fz):=λi cc e fz hi=>by
  grind
 have hcell:∀a v,w.cell? a=some v->World.cell? { w with heap:=w.heap.setIfInBounds r (.map es' c) } a=some v:=by
  grind [World.cell?]
 have hmg:∀j,(h.nu m ⟨t,c,es⟩).kZ j=if j=m then some ⟨t,c,es⟩ else h.kZ j:=λj=>cK _ _ _ _;refine⟨λi o hi=>?_,R.xq,R.nx,λb l hl=>?_,λb c1 g base e hb1=>?_,R.eJ,R.ot,R.os,R.EG,⟨λm' hm'=>?_,λm' r' hm'=>?_,R.mp.inj,λm' x1 hm'=>?_⟩⟩
 .simp only[hget];rw[AT (λx=>by subst x;rw[(R.mp.loc m i hm).1] at hi;cases hi)];exact R.na i o hi
 .obtain⟨cc,fz,q1,q2⟩:=R.loc b l hl;exact⟨cc,fz,hcells _ _ _ _ q1,q2⟩
 .obtain⟨l,q1,q2,q3,q4,q5⟩:=R.live b c1 g base e hb1
  grind
 .have q:=R.mp.xq m' hm'
  grind
 .refine⟨(R.mp.loc m' r' hm').1,?_⟩;simp only[hget];by_cases e:r'=r
  .exact⟨es',c,by rw[By e]⟩
  .rw[AT e];exact (R.mp.loc m' r' hm').2
 .rw[hmg] at hm';by_cases e:m'=m
  .grind
  .rw[AT e] at hm';obtain⟨r',es2,q1,q2,q3⟩:=R.mp.live m' x1 hm';have hne:r'≠r:=λx=>by subst x;exact e (R.mp.inj m' m _ q1 hm)
   grind
theorem M4 (R:Rel P W0 ι h w){kt:κ}{m:Nat}(hx:B5 kt h=some (m,h1)) :
  ∃ι',ι.le ι'/\ι'.mp m=some w.heap.size/\Rel P W0 ι' h1 { w with heap:=w.heap.push (.map #[] 0) }:=by
 unfold B5 at hx;cases hx;have hd:=R.mp.xq h.next R.unused
 have hle:ι.le ⟨ι.f,λj=>if j=h.next then some w.heap.size else ι.mp j⟩:=by
  refine⟨λ_ _ x=>x,λm r hm=>?_⟩
  grind
 have hused:∀b,({ h.nu h.next ⟨kt,0,[]⟩ with next:=h.next+1,used:=λj=>cond (Nat.beq j h.next) true (h.used j) }:ab).used b=if b=h.next then true else h.used b:=λb=>cK _ _ _ _
 have hus:∀b,({ h.nu h.next ⟨kt,0,[]⟩ with next:=h.next+1,used:=λj=>cond (Nat.beq j h.next) true (h.used j) }:ab).used b=false->b≠h.next/\h.used b=false:=λb hb=>by
  grind
 refine⟨_,hle,by simp,?_⟩;have hnone:W0 w.heap.size=none:=by
  cases hq:W0 w.heap.size with
  |none=>rfl
  |some o=>have:=(Array.getElem?_eq_some_iff.1 (R.na _ o hq)).1;omega
 have hlt:∀(i:Nat) o,w.heap[i]?=some o->(w.heap.push (.map #[] 0))[i]?=some o:=λi o hi=>by
  grind
 have hmg:∀j,(h.nu h.next ⟨kt,0,[]⟩).kZ j=if j=h.next then some ⟨kt,0,[]⟩ else h.kZ j:=λj=>cK _ _ _ _
 refine⟨λi o hi=>hlt _ _ (R.na i o hi),λb hb=>R.xq b (hus b hb).2,λb hb=>?_,λb l hl=>?_,λb c1 g base e hb1=>?_,R.eJ,λb c1 g base e hb1 hg=>?_,R.os,R.EG,⟨λm' hm'=>?_,λm' r' hm'=>?_,λm1 m2 r h1 h2=>?_,λm' x1 hm'=>?_⟩⟩
 .have hb:h.next+1<=b:=hb
  refine (hused b).trans ?_;rw[AT (by omega)];exact R.nx b (by omega)
 .obtain⟨cc,fz,q1,q2⟩:=R.loc b l hl;exact⟨cc,fz,hlt _ _ q1,q2⟩
 .obtain⟨l,q1,q2,q3,q4,q5⟩:=R.live b c1 g base e hb1;exact⟨l,q1,q2,q3,q4,λi v hv=>let ⟨v',a,b,d⟩:=q5 i v hv;⟨v',Dd _ _ a,b,d.mono hle⟩⟩
 .obtain⟨q1,q2⟩:=R.ot b c1 g base e hb1 hg;refine⟨q1,(hused _).trans ?_⟩;split
  .rfl
  .exact q2
 .obtain⟨hne,hu⟩:=hus m' hm';refine⟨?_,?_⟩
  .refine (hmg m').trans ?_;rw[AT hne];exact (R.mp.xq m' hu).1
  .simp only[AT hne];exact (R.mp.xq m' hu).2
 .by_cases e:m'=h.next
  .grind
  .simp only[AT e] at hm';obtain⟨q1,es,c,q2⟩:=R.mp.loc m' r' hm';exact⟨q1,es,c,hlt _ _ q2⟩
 .have na:∀m r,ι.mp m=some r->r<w.heap.size:=λm r hm=>by
   obtain⟨_,es,c,q⟩:=R.mp.loc m r hm;exact (Array.getElem?_eq_some_iff.1 q).1
  by_cases e1:m1=h.next<;>by_cases e2:m2=h.next
  .rw[e1,e2]
  .grind
  .grind
  .simp only[AT e1] at h1;simp only[AT e2] at h2;exact R.mp.inj _ _ _ h1 h2
 .replace hm':=(hmg m').symm.trans hm'
  by_cases e:m'=h.next
  .rw[By e] at hm';cases hm';exact⟨w.heap.size,#[],by simp[e],by simp,trivial⟩
  .rw[AT e] at hm';obtain⟨r',es2,q1,q2,q3⟩:=R.mp.live m' x1 hm';exact⟨r',es2,by simp[e,q1],hlt _ _ q2,q3.mono hle⟩
theorem H3 (R:Rel P W0 ι h w){k:Nat}{kt:κ}{m:Nat}(hx:B6 k kt h=some (m,h1)) :
  ∃ι',ι.le ι'/\ι'.mp m=some w.heap.size/\Rel P W0 ι' h1 { w with heap:=w.heap.push (.map #[] 0) }:=by
 unfold B6 at hx;split at hx
 case isFalse=>cases hx
 rename_i hk;simp only[aai,aiJ] at hx;obtain⟨hkm,rfl⟩:=hx;subst hkm;have hd:=R.mp.xq k hk.1;have hle:ι.le ⟨ι.f,λj=>if j=k then some w.heap.size else ι.mp j⟩:=by
  refine⟨λ_ _ x=>x,λm' r hm=>?_⟩
  grind
 have hused:∀b,(h.OW k kt).used b=if b=k then true else h.used b:=λb=>cK _ _ _ _;have hus:∀b,(h.OW k kt).used b=false->b≠k/\h.used b=false:=λb hb=>by
  grind
 refine⟨_,hle,by simp,?_⟩;have hnone:W0 w.heap.size=none:=by
  cases hq:W0 w.heap.size with
  |none=>rfl
  |some o=>have:=(Array.getElem?_eq_some_iff.1 (R.na _ o hq)).1;omega
 have hlt:∀(i:Nat) o,w.heap[i]?=some o->(w.heap.push (.map #[] 0))[i]?=some o:=λi o hi=>by
  grind
 have hmg:∀j,(h.nu k ⟨kt,0,[]⟩).kZ j=if j=k then some ⟨kt,0,[]⟩ else h.kZ j:=λj=>cK _ _ _ _;refine⟨λi o hi=>hlt _ _ (R.na i o hi),λb hb=>R.xq b (hus b hb).2,λb hb=>?_,λb l hl=>?_,λb c1 g base e hb1=>?_,R.eJ,λb c1 g base e hb1 hg=>?_,R.os,R.EG,⟨λm' hm'=>?_,λm' r' hm'=>?_,λm1 m2 r h1 h2=>?_,λm' x1 hm'=>?_⟩⟩
 .have hb:h.next<=b:=hb
  refine (hused b).trans ?_;rw[AT (by have:=hk.2.1;omega)];exact R.nx b hb
 .obtain⟨cc,fz,q1,q2⟩:=R.loc b l hl;exact⟨cc,fz,hlt _ _ q1,q2⟩
 .obtain⟨l,q1,q2,q3,q4,q5⟩:=R.live b c1 g base e hb1;exact⟨l,q1,q2,q3,q4,λi v hv=>let ⟨v',a,b,d⟩:=q5 i v hv;⟨v',Dd _ _ a,b,d.mono hle⟩⟩
 .obtain⟨q1,q2⟩:=R.ot b c1 g base e hb1 hg;refine⟨q1,(hused _).trans ?_⟩;split
  .rfl
  .exact q2
 .obtain⟨hne,hu⟩:=hus m' hm';refine⟨?_,?_⟩
  .refine (hmg m').trans ?_;rw[AT hne];exact (R.mp.xq m' hu).1
  .simp only[AT hne];exact (R.mp.xq m' hu).2
 .by_cases e:m'=k
  .grind
  .simp only[AT e] at hm';obtain⟨q1,es,c,q2⟩:=R.mp.loc m' r' hm';exact⟨q1,es,c,hlt _ _ q2⟩
 .have na:∀k r,ι.mp k=some r->r<w.heap.size:=λk r hm=>by
   obtain⟨_,es,c,q⟩:=R.mp.loc k r hm;exact (Array.getElem?_eq_some_iff.1 q).1
  by_cases e1:m1=k<;>by_cases e2:m2=k
  .rw[e1,e2]
  .grind
  .grind
  .simp only[AT e1] at h1;simp only[AT e2] at h2;exact R.mp.inj _ _ _ h1 h2
 .replace hm':=(hmg m').symm.trans hm'
  by_cases e:m'=k
  .rw[By e] at hm';cases hm';exact⟨w.heap.size,#[],by simp[e],by simp,trivial⟩
  .rw[AT e] at hm';obtain⟨r',es2,q1,q2,q3⟩:=R.mp.live m' x1 hm';exact⟨r',es2,by simp[e,q1],hlt _ _ q2,q3.mono hle⟩
theorem aN.Wz {m:μ}{v':ξ}(hr:aN P ι (.map m) v'):(m=none/\v'=.map none)\/∃a r,m=some a/\v'=.map (some r)/\ι.mp a=some r:=by
 cases hr with
 |flat _ hf=>cases m with
  |none=>exact .inl ⟨rfl,rfl⟩
  |some a=>simp[dz] at hf
 |map a r hr=>exact .inr ⟨a,r,rfl,rfl,hr⟩
theorem Bb {kt:κ}{m:Nat}{c:Nat}{es:List o6}(hx:h.B7 kt m=some (c,es)):h.kZ m=some ⟨kt,c,es⟩:=by
 unfold ab.B7 at hx;split at hx
 .rename_i x hg;split at hx
  .rename_i hb;cases hx;rw[hg,<-IS hb]
  .cases hx
 .cases hx
theorem Jn {t:Ty}{v:ξ}{x:t.den}(hx:Mv t v=some x):v=Ec t x:=by
 cases t with
 |one l=>exact sZ hx
 |agg ls=>
  cases v<;>simp only[Mv] at hx<;>try cases hx
  rename_i cs;rw[Ec,<-De hx]
theorem Dh {kt:κ}{k:ξ}(h:o7 P kt k=true):∃d,P.underlying kt=some d:=by
 unfold o7 at h;split at h
 .rename_i K hK;unfold Mx at hK;split at hK
  .exact⟨_,by assumption⟩
  .exact⟨_,by assumption⟩
  .split at hK
   .rename_i l hl;obtain⟨_,⟨k,h1,_⟩|⟨h1,_⟩|⟨h1,_⟩⟩:=qi hl<;>exact⟨_,h1⟩
   .cases hK
 .cases h
theorem Jo (R:Rel P W0 ι h w){t k e:κ}(ht:P.underlying t=some (.map k e)){m:μ}{x' kv kv':ξ}(hm:aN P ι (.map m) x')(hk:o7 P k kv=true)(hkr:aN P ι kv kv')
  {T:Ty} {zv:ξ} (hz:zeroOf P e=some zv) {z:T.den} (huz:Mv T zv=some z) {ok:Bool} {r:Bool×T.den} (hx:rK k T z m kv h=some (r,h1)) :
  gj P W0 ι w (Instr.lookup t x' kv' ok) (match ok with|true=>.tuple #[Ec T r.2,.bool r.1] | false=>Ec T r.2) h1:=by
 have K:=O9 hk;obtain rfl:=(K.flat _ _ hkr).symm;obtain⟨d,hd⟩:=Dh hk;obtain⟨_,hz1,_⟩:=gL hz;have hzz:=Jn huz;have hzf:aN P ι zv zv:=by
  obtain⟨q,_⟩:=gL hz;cases zv with
  |agg cs=>
   refine .agg _ _ rfl ?_;intro i u u' a b;rw[a] at b;cases b;exact .flat _ (List.all_eq_true.1 q u (by simpa[Value.cells] using ajJ a))
  |_=>exact .flat _ (by simpa[Value.cells] using q)
 have fin:∀(b:Bool) (x:T.den) (v':ξ),aN P ι (Ec T x) v' ->
   aN P ι (match ok with|true=>.tuple #[Ec T x,.bool b] | false=>Ec T x) (if ok then .tuple #[v',.bool b] else v'):=by
  intro b x v' hv;cases ok
  .exact hv
  .refine .tuple _ _ rfl λi u u' a c=>?_
   match i with
   |0=>simp at a c;subst a;subst c;exact hv
   |1=>simp at a c;subst a;subst c;exact .ofBool
   |i+2=>simp at a
 unfold rK at hx;split at hx
 .cases hx;rcases hm.Wz with⟨_,rfl⟩|⟨a,r,h2,_⟩
  .have hfk:(Instr.findKey k kv #[].toList).run P w=.ok none w:=vJ (es:=[]) hd K w (by simp);refine .ret (v':=if ok then .tuple #[zv,.bool false] else zv) ?_ (fin false z zv (by rw[<-hzz];exact hzf)) R;simp at hfk;cases ok<;>simp[Instr.lookup,aR ht,K.oo,hfk,hz1]
  .cases h2
 .rename_i m0;rcases hm.Wz with⟨h2,_⟩|⟨a,r0,h2,rfl,hr0⟩
  .cases h2
  .cases h2;split at hx
   .rename_i c es hes;obtain⟨r1,es',q1,q2,q3⟩:=R.mp.live _ _ (Bb hes);rw[hr0] at q1;cases q1;have hfk:=vJ (es:=es'.toList) hd K w q3.keys;have hgo:=MapKept.run_getObj_map (P:=P) q2;split at hx
    .rename_i v hv;split at hx
     .rename_i x hux;cases hx;unfold yk at hv;rcases we.find kv 0 q3 with⟨h3,_⟩|⟨v1,v',j,h3,h4,h5,_⟩
      .rw[h3] at hv;cases hv
      .rw[h3] at hv;cases hv;rw[h4] at hfk;refine .ret (v':=if ok then .tuple #[v',.bool true] else v') ?_ (fin true x v' (by rw[<-Jn hux];exact h5)) R;cases ok<;>simp[Instr.lookup,aR ht,K.oo,hgo,hfk]
     .cases hx
    .rename_i hv;cases hx;unfold yk at hv;rcases we.find kv 0 q3 with⟨h3,h4⟩|⟨v1,v',j,h3,h4,h5,_⟩
     .rw[h4] at hfk;refine .ret (v':=if ok then .tuple #[zv,.bool false] else zv) ?_ (fin false z zv (by rw[<-hzz];exact hzf)) R;cases ok<;>simp[Instr.lookup,aR ht,K.oo,hgo,hfk,hz1]
     .rw[h3] at hv;cases hv
   .cases hx
theorem yp (R:Rel P W0 ι h w){t k e:κ}(ht:P.underlying t=some (.map k e)){m:μ}{x' kv kv' v v':ξ}(hm:aN P ι (.map m) x')(hk:o7 P k kv=true)(hkr:aN P ι kv kv')(hv:aN P ι v v')
  {u:Unit} (hx:Ed k m kv v h=some (u,h1)):∃w',(Instr.mapUpdate t x' kv' v').run P w=.ok () w'/\Rel P W0 ι h1 w':=by
 have K:=O9 hk;obtain rfl:=(K.flat _ _ hkr).symm;obtain⟨d,hd⟩:=Dh hk;unfold Ed at hx;split at hx
 .cases hx
 .rename_i m0;rcases hm.Wz with⟨h2,_⟩|⟨a,r0,h2,rfl,hr0⟩
  .cases h2
  .cases h2;split at hx
   .rename_i c es hes;cases hx;obtain⟨r1,es',q1,q2,q3⟩:=R.mp.live _ _ (Bb hes);rw[hr0] at q1;cases q1;have hfk:=vJ (es:=es'.toList) hd K w q3.keys;have hgo:=MapKept.run_getObj_map (P:=P) q2;have hst:(Instr.keyThatStays kv kv).run P w=.ok kv w:=(by simp[Instr.keyThatStays,K.same]);rcases we.find kv 0 q3 with⟨h3,h4⟩|⟨v1,v2,j,h3,h4,h5,h5b,e',h6,h7,h8,h9⟩
    .rw[h4] at hfk;have hes2:we P ι k (qb kv v c es) (es'.push { key:=kv,val:=v',born:=c }).toList:=(by simpa using we.Jm hk hv 0 q3 h4);simp only at h3;simp only[h3];refine⟨{ w with heap:=w.heap.setIfInBounds r0 (.map (es'.push { key:=kv,val:=v',born:=c }) (c+1)) },?_,R.nu hr0 q2 hes2⟩
     .simp[Instr.mapUpdate,aR ht,hgo,K.oo,hfk,MapKept.run_setObj_map _ q2]
    .rw[h4] at hfk;have h6':es'[j]?=some e':=(by simpa using h6);have hes2:we P ι k (qb kv v c es) (es'.modify j λe=>{ e with key:=kv,val:=v' }).toList:=by
      have:=we.Rx (c:=c) hk hv 0 j q3 h4;simpa using this
     simp only at h3;simp only[h3];refine⟨{ w with heap:=w.heap.setIfInBounds r0 (.map (es'.modify j λe=>{ e with key:=kv,val:=v' }) c) },?_,R.nu hr0 q2 hes2⟩
     .simp[Instr.mapUpdate,aR ht,hgo,K.oo,hfk,MapKept.run_setObj_map _ q2,h6',h7,hst]
   .cases hx
theorem Gn (R:Rel P W0 ι h w){t k e:κ}(ht:P.underlying t=some (.map k e)){m:μ}{x' kv kv':ξ}(hm:aN P ι (.map m) x')(hk:o7 P k kv=true)(hkr:aN P ι kv kv')
  {T:Ty} {zv:ξ} (hz:zeroOf P e=some zv) {z:T.den} (huz:Mv T zv=some z) {r:T.den×Nat} (hx:xk k T z m kv h=some (r,h1)) :
  gj P W0 ι w (Instr.mapEntry t x' kv') (.tuple #[Ec T r.1,.int .i64 r.2]) h1:=by
 have K:=O9 hk;obtain rfl:=(K.flat _ _ hkr).symm;obtain⟨d,hd⟩:=Dh hk;obtain⟨_,hz1,_⟩:=gL hz;have hzz:=Jn huz;have hzf:aN P ι zv zv:=by
  obtain⟨q,_⟩:=gL hz;cases zv with
  |agg cs=>
   refine .agg _ _ rfl ?_;intro i u u' a b;rw[a] at b;cases b;exact .flat _ (List.all_eq_true.1 q u (by simpa[Value.cells] using ajJ a))
  |_=>exact .flat _ (by simpa[Value.cells] using q)
 have fin:∀(b:Nat) (x:T.den) (v':ξ),aN P ι (Ec T x) v'->aN P ι (.tuple #[Ec T x,.int .i64 b]) (.tuple #[v',.int .i64 b]):=by
  intro b x v' hv;refine .tuple _ _ rfl λi u u' a c=>?_
  match i with
  |0=>simp at a c;subst a;subst c;exact hv
  |1=>simp at a c;subst a;subst c;exact .ofInt
  |i+2=>simp at a
 unfold xk at hx;split at hx
 .cases hx
 .rename_i m0;rcases hm.Wz with⟨h2,_⟩|⟨a,r0,h2,rfl,hr0⟩
  .cases h2
  .cases h2;split at hx
   .rename_i c es hes;obtain⟨r1,es',q1,q2,q3⟩:=R.mp.live _ _ (Bb hes);rw[hr0] at q1;cases q1;have hfk:=vJ (es:=es'.toList) hd K w q3.keys;have hgo:=MapKept.run_getObj_map (P:=P) q2;have hst:(Instr.keyThatStays kv kv).run P w=.ok kv w:=(by simp[Instr.keyThatStays,K.same]);split at hx
    .rename_i e0 hv;split at hx
     .rename_i x hux;cases hx;rcases we.find kv 0 q3 with⟨h3,h4⟩|⟨v1,v2,j,h3,h4,h5,h5b,e',h6,h7,h8,h9⟩
      .rw[h3] at hv;cases hv
      .rw[h3] at hv;cases hv;rw[h4] at hfk;have h6':es'[j]?=some e':=(by simpa using h6);have hsame:es'.modify j (λe=>{ e with key:=kv })=es':=by
        apply agh;simpa using we.M0 0 j q3 h4
       refine⟨.tuple #[v2,.int .i64 e0.born],{ w with heap:=w.heap.setIfInBounds r0 (.map es' c) },ι,?_,fin _ _ _ (by rw[<-Jn hux];exact h5),?_,.refl _⟩
       .simp[Instr.mapEntry,aR ht,hgo,K.oo,hfk,MapKept.run_setObj_map _ q2,h6',h7,h8,hst,hsame,goInt]
       .have hid:w.heap.setIfInBounds r0 (.map es' c)=w.heap:=by
         apply aku;intro i;rw[ajL];by_cases hi:r0=i
         .grind
         .rw[AT hi]
        rw[hid];exact R
     .cases hx
    .rename_i hv;cases hx;rcases we.find kv 0 q3 with⟨h3,h4⟩|⟨v1,v2,j,h3,h4,h5,h5b,e',h6,h7,h8,h9⟩
     .rw[h4] at hfk;refine⟨.tuple #[zv,.int .i64 c],{ w with heap:=w.heap.setIfInBounds r0 (.map (es'.push { key:=kv,val:=zv,born:=c }) (c+1)) },ι,?_,fin c z zv (by rw[<-hzz];exact hzf),R.nu hr0 q2 ?_,.refl _⟩
      .simp[Instr.mapEntry,aR ht,hgo,K.oo,hfk,MapKept.run_setObj_map _ q2,hz1,goInt]
      .rw[<-hzz];simpa using we.Jm hk hzf 0 q3 h4
     .rw[h3] at hv;cases hv
   .cases hx
theorem Di (R:Rel P W0 ι h w){t:κ}{m:μ}{x' v v':ξ}{kk:IntKind}{st:Int}(hm:aN P ι (.map m) x')(hv:aN P ι v v')
  {u:Unit} (hx:xl m st v h=some (u,h1)):∃w',(Instr.entryStore t x' (.int kk st) v').run P w=.ok () w'/\Rel P W0 ι h1 w':=by
 unfold xl at hx;split at hx
 .cases hx
 .rename_i m0;rcases hm.Wz with⟨h2,_⟩|⟨a,r0,h2,rfl,hr0⟩
  .cases h2
  .cases h2;split at hx
   .rename_i x hes;split at hx
    .rename_i es hd hp;cases hx;obtain⟨r1,es',q1,q2,q3⟩:=R.mp.live _ _ hes;rw[hr0] at q1;cases q1;have hgo:=MapKept.run_getObj_map (P:=P) q2;obtain⟨j,h3,h4⟩:=we.cS hv q3 hp;have hst:((st.toNat:Nat):Int)=st:=Int.toNat_of_nonneg (ajZ hd);rw[hst] at h3;have h3':es'.findIdx? (λe=>(e.born:Int)==st)=some j:=by
      rw[<-ajt (xs:=es'),List.findIdx?_toArray];exact h3
     refine⟨{ w with heap:=w.heap.setIfInBounds r0 (.map (es'.modify j λe=>{ e with val:=v' }) x.clock) },?_,R.nu hr0 q2 ?_⟩
     .simp[Instr.entryStore,hgo,asInt,asIntOf,h3',MapKept.run_setObj_map _ q2]
     .simpa using h4
    .cases hx
   .cases hx
theorem M5 (R:Rel P W0 ι h w){t e ty:κ}{ts:Array κ}(hts:ts[0]?=some t)(ht:P.underlying t=some (.slice e)){z:Nat}(hz:bX P e=some z){a:θ}{n c:Nat}{a2:θ}{n2 c2:Nat}{x' y':ξ}
  (hd:aN P ι (.slice a n c) x') (hs:aN P ι (.slice a2 n2 c2) y') {k:Nat} (hx:yl ⟨a,n,c⟩ ⟨a2,n2,c2⟩ z h=some (k,h1)) :
  gj P W0 ι w (Builtin.copy_ ts ty #[x',y']) (.int .i64 k) h1:=by
 have src:∀cs,aX h a2 (Nat.min n2 n*z)=some cs->∃cs',bg P ι cs cs'/\(Builtin.firstCells z (Nat.min n2 n) y').run P w=.ok cs'.toArray w/\(∀v∈cs,eB v=true):=by
  intro cs hc;cases hs with
  |flat _ hf=>
   cases a2 with
   |some a=>simp[dz] at hf
   |none=>
    simp[aX] at hc;obtain⟨h0,rfl⟩:=hc;exact⟨[],.nil,by simp[Builtin.firstCells],by simp⟩
  |slice b b' n c c' l e1 e2 e3 e4 e5 e6 e7 e8=>
   obtain⟨cs',q1,q2,q3,q4,q5⟩:=sK R ⟨e1,e2,l,e3,e4,e5⟩ hc
   grind [Builtin.firstCells]
  |lA b b' c hce=>
   have:cs=[]:=by
    simp[aX] at hc
    grind
   subst this;exact⟨[],.nil,by simp[Builtin.firstCells,loadCells,loadCellsFrom],by simp⟩
 obtain⟨y2,c3,hy2,_⟩:=hs.slO;obtain⟨x2,c4,hx2,hxn⟩:=hd.slO;have hlen:(Builtin.lenOf y').run P w=.ok n2 w:=by rw[hy2];simp[Builtin.lenOf]
 unfold yl at hx;split at hx
 .rename_i hc;cases hx;obtain⟨cs',q1,q2,_⟩:=src _ hc;have:cs'=[]:=by have:=q1.1;simp at this;exact acu this.symm
  subst this;refine .ret (v':=.int .i64 (Nat.min n2 n)) ?_ .ofInt R;subst hx2;cases x2<;>simp[Builtin.copy_,hts,aR ht,hlen,kK hz,q2,storeCells,goInt]
 .rename_i cs hne hc;split at hx
  .cases hx
  .rename_i b hb;split at hx
   .rename_i u h2 hst;cases hx;obtain⟨cs',q1,q2,_⟩:=src _ hc;have hb:a=some b:=hb;subst hb;cases hd with
    |flat _ hf=>simp[dz] at hf
    |slice _ b' n c c' l e1 e2 e3 e4 e5 e6 e7 e8=>
     obtain⟨w',hr,R'⟩:=Df R ⟨e1,e2,l,e3,e4,e5⟩ q1 hst;refine⟨.int .i64 (Nat.min n2 n),w',ι,?_,.ofInt,R',.refl _⟩;simp[Builtin.copy_,hts,aR ht,hlen,kK hz,q2,goInt,hr]
    |lA _ b' c hce=>
     exfalso;have:cs=[]:=by
      have:Nat.min n2 0*z=0:=(by simp);rw[this] at hc;unfold aX at hc
      grind
     exact hne this
   .cases hx
 .cases hx
end Go.Ago
