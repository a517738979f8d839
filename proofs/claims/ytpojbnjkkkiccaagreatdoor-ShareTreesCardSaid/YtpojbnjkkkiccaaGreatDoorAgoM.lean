
import Derived.Test.YtpojbnjkkkiccaaGreatDoorAgoD
import Derived.ChangeKeysEq
set_option linter.all false
namespace Go.Ago
open Go
variable {P:Program}{W0:Fz}{ι ι':gO}{h h' h1:ai}{w w':World}
theorem HN {l}{v}(h:jm l v=true):dO v=true:=by
 cases l<;>cases v<;>simp_all[jm,dO]
theorem sT {t}{l}(h:wx P t=some l):bU P t=some 1 /\
  ((∃k,P.underlying t=some (.int k)/\l=.int k)\/(P.underlying t=some .bool/\l=.bool)\/(P.underlying t=some .string/\l=.str)):=by
 grind [wx]
def xe {k}{v}(h:jm (.int k) v=true):∃n,v=.int k n:=by
 cases v<;>simp only[jm] at h<;>try cases h
 rename_i k' n;exact⟨n,by rw[M7 h]⟩
def vC {v}(h:jm .bool v=true):∃n,v=.bool n:=by
 cases v<;>simp only[jm] at h<;>try cases h
 exact⟨_,rfl⟩
def xf {v}(h:jm .str v=true):∃n,v=.string n:=by
 cases v<;>simp only[jm] at h<;>try cases h
 exact⟨_,rfl⟩
def O8 k:Q7 k k=true:=by cases k<;>rfl
theorem Ed {t}{l}(h:wx P t=some l){v u}(hv:jm l v=true)(hu:jm l u=true) d w :
  (Op.equalIn (d+1) t v u).run P w=.ok (Fj v u) w:=by
 obtain⟨_,⟨k,h1,rfl⟩|⟨h1,rfl⟩|⟨h1,rfl⟩⟩:=sT h
 .obtain⟨a,rfl⟩:=xe hv;obtain⟨b,rfl⟩:=xe hu;rw[run_equalIn_int w d t _ _ _ _ h1];simp only[Fj,O8,aoI];rfl
 .obtain⟨a,rfl⟩:=vC hv;obtain⟨b,rfl⟩:=vC hu;exact run_equalIn_bool w d t _ _ h1
 .obtain⟨a,rfl⟩:=xf hv;obtain⟨b,rfl⟩:=xf hu;rw[run_equalIn_string w d t _ _ h1,<-sM];rfl
theorem yF {t}{l}(h:wx P t=some l){v}(hv:jm l v=true) em n w :
  (Instr.checkKey em (n+1) t v).run P w=.ok () w:=by
 obtain⟨_,⟨k,h1,rfl⟩|⟨h1,rfl⟩|⟨h1,rfl⟩⟩:=sT h
 .obtain⟨a,rfl⟩:=xe hv;simp[Instr.checkKey,aI h1]
 .obtain⟨a,rfl⟩:=vC hv;simp[Instr.checkKey,aI h1]
 .obtain⟨a,rfl⟩:=xf hv;simp[Instr.checkKey,aI h1]
theorem qm {t}{l}(h:wx P t=some l){xs}{o}{v}(hx:xs[o]?=some v) w:(part t xs o).run P w=.ok v w:=by
 obtain⟨_,⟨k,h1,rfl⟩|⟨h1,rfl⟩|⟨h1,rfl⟩⟩:=sT h<;>exact Jp h1 rfl hx w
theorem TU {v u}(h:Fj v u=true):v=u:=by
 cases v<;>cases u<;>simp only[Fj,abw,aca] at h<;>try cases h
 .grind
 .grind [M7]
 .rename_i a b;rw[sM] at h;have h:=beq_iff_eq.1 h;rw[ByteArray.toList_eq,ByteArray.toList_eq] at h;cases a;simp_all
theorem TV:∀{xs ys},Bq xs ys=true->xs=ys
 |[],[],_=>rfl
 |[],_::_,h=>by cases h
 |_::_,[],h=>by cases h
 |x::xs,y::ys,h=>by
  simp[Bq,abw] at h;rw[TU h.1,TV h.2]
theorem Rj {x y}(h:DO x y=true):x=y:=by
 unfold DO at h
 grind [TV,Array.toList_inj,TU]
theorem O9 {xs ys}:∀fs o ls d w ,Jg P fs o=some ls->fH ls (xs.toList.drop o)=true->fH ls (ys.toList.drop o)=true ->
  (Op.eqFields (d+1) xs ys fs).run P w=.ok (Bq (xs.toList.drop o) (ys.toList.drop o)) w
 |[],o,ls,d,w,h,hx,hy=>by
  simp only[Jg,acU] at h;subst h;cases h1:xs.toList.drop o with
  |cons=>grind [fH]
  |nil=>
   cases h2:ys.toList.drop o with
   |cons=>grind [fH]
   |nil=>simp[Op.eqFields,Bq]
 |f::fs,o,ls,d,w,h,hx,hy=>by
  simp[Jg] at h;split at h
  .rename_i l ls' hn ho hl hr;cases h;have ho:=IT ho;have hn : f.name ≠ "_" := by grind
   cases h1:xs.toList.drop o with
   |nil=>grind [fH]
   |cons x xs'=>
    cases h2:ys.toList.drop o with
    |nil=>grind [fH]
    |cons y ys'=>
     rw[h1] at hx;rw[h2] at hy;simp[fH,abw] at hx hy;have hx0:xs[o]?=some x:=by
      rw[<-ahP,<-ak4 o,<-al0,h1];rfl
     have hy0:ys[o]?=some y:=by
      rw[<-ahP,<-ak4 o,<-al0,h2];rfl
     have hxt:xs.toList.drop (o+1)=xs':=(by rw[<-anP,h1];rfl);have hyt:ys.toList.drop (o+1)=ys':=(by rw[<-anP,h2];rfl);have ih:=O9 fs (o+1) ls' d w hr (by rw[hxt];exact hx.2) (by rw[hyt];exact hy.2);rw[hxt,hyt] at ih;unfold Op.eqFields;rw[By hn,ho];simp only[Sem.run_bind,qm hl hx0,qm hl hy0,Result.andThen_ok,Ed hl hx.1 hy.1 d w,Bq];cases Fj x y
     .simp
     .simp[ih]
  .cases h
theorem HO {xs} em n:∀fs o ls ,Jg P fs o=some ls->fH ls (xs.toList.drop o)=true ->
  ∀w,(forIn fs PUnit.unit (λf (_:PUnit)=>(do
    if f.name ≠ "_" then Instr.checkKey em (n+1) f.type (<-part f.type xs f.offset)
    pure (ForInStep.yield PUnit.unit):Sem (ForInStep PUnit)))).run P w=.ok PUnit.unit w
 |[],o,ls,h,hx,w=>by simp
 |f::fs,o,ls,h,hx,w=>by
  simp[Jg] at h;split at h
  .rename_i l ls' hn ho hl hr;cases h;have ho:=IT ho;have hn : f.name ≠ "_" := by grind
   cases h1:xs.toList.drop o with
   |nil=>grind [fH]
   |cons x xs'=>
    rw[h1] at hx;simp[fH,abw] at hx;have hx0:xs[o]?=some x:=by
     rw[<-ahP,<-ak4 o,<-al0,h1];rfl
    have hxt:xs.toList.drop (o+1)=xs':=(by rw[<-anP,h1];rfl);have ih:=HO em n fs (o+1) ls' hr (by rw[hxt];exact hx.2) w;rw[List.forIn_cons];simp only[hn,ne_eq,not_false_eq_true,amt,Sem.run_bind,ho,qm hl hx0,Result.andThen_ok,yF hl hx.1,Sem.run_pure];simpa using ih
  .cases h
theorem yG {l}:∀{n} {xs},fH (List.replicate n l) xs=true->xs.length=n/\∀v∈xs,jm l v=true
 |0,[],_=>⟨rfl,by simp⟩
 |0,_::_,h=>by cases h
 |n+1,[],h=>by cases h
 |n+1,x::xs,h=>by
  rw[amV] at h;simp[fH,abw] at h;obtain⟨h1,h2⟩:=yG h.2
  grind
theorem L7 {e}{l}(hl:wx P e=some l){xs ys}(hx:∀v∈xs.toList,jm l v=true)(hy:∀v∈ys.toList,jm l v=true) d w :
  ∀k o ,xs.size=o+k->ys.size=o+k->(Op.eqItems (d+1) e 1 xs ys (List.range' o k)).run P w=.ok (Bq (xs.toList.drop o) (ys.toList.drop o)) w
 |0,o,h1,h2=>by
  have e1:xs.toList.drop o=[]:=abY (by simp;omega);have e2:ys.toList.drop o=[]:=abY (by simp;omega);simp[Op.eqItems,e1,e2,Bq]
 |k+1,o,h1,h2=>by
  have ih:=L7 hl hx hy d w k (o+1) (by omega) (by omega);have l1:o<xs.toList.length:=by simp;omega
  have l2:o<ys.toList.length:=by simp;omega
  rw[alW l1,alW l2,aoP,Op.eqItems];have p1:xs[o*1]?=some xs.toList[o]:=by grind
  have p2:ys[o*1]?=some ys.toList[o]:=by grind
  simp only[Sem.run_bind,qm hl p1,qm hl p2,Result.andThen_ok,Ed hl (hx _ (anJ l1)) (hy _ (anJ l2)) d w,Bq];cases Fj xs.toList[o] ys.toList[o]
  .simp
  grind
theorem Jt {l}{v}(h:VL (.one l) v=true):jm l v=true:=by
 unfold VL at h;exact h
def y7 {ls}{v}(h:VL (.agg ls) v=true):∃cs,v=.agg cs/\fH ls cs.toList=true:=by
 cases v<;>simp only[VL] at h<;>try cases h
 exact⟨_,rfl,h⟩
theorem TW {l}{v u}(h:jm l v=true):DO v u=Fj v u:=by
 cases v<;>first|rfl|grind [jm]
structure Nd (P:Program) (t:κ) (x:ξ):Prop where
 eq:∀y,qW P t y=true->∀w,(Op.equal t x y).run P w=.ok (DO x y) w
 tX:∀em w,(Instr.checkKey em 10000 t x).run P w=.ok () w
 same:Instr.sameBits 10000 x x=true
 now:∀y,qW P t y=true->∀kd,Instr.sameNow kd x y=none\/Instr.sameNow kd x y=some (DO x y)
 flat:∀ι v',aN P ι x v'->v'=x
theorem HP {l}{v}(h:jm l v=true) n:Instr.sameBits n v v=true:=by
 cases l<;>cases v<;>simp_all[jm,Instr.sameBits,beq_toListBytes]
theorem YW {l}{v u}(h:jm l v=true)(hu:jm l u=true) kd:Instr.sameNow kd v u=none\/Instr.sameNow kd v u=some (Fj v u):=by
 cases l with
 |int k=>
  obtain⟨a,rfl⟩:=xe h;obtain⟨b,rfl⟩:=xe hu;cases kd<;>first|exact .inl rfl|skip
  right;simp only[Instr.sameNow,amt,Fj,O8,aoI];rfl
 |bool=>
  obtain⟨a,rfl⟩:=vC h;obtain⟨b,rfl⟩:=vC hu;cases kd<;>first|exact .inl rfl|exact .inr rfl
 |str=>
  obtain⟨a,rfl⟩:=xf h;obtain⟨b,rfl⟩:=xf hu;cases kd<;>first|exact .inl rfl|skip
  right;simp only[Instr.sameNow];rw[beq_toListBytes,<-sM];rfl
 |_=>grind [jm]
theorem sU:∀{ls} {vs},fH ls vs=true->∀v∈vs,dO v=true/\∃l,jm l v=true
 |[],[],_=>by simp
 |[],_::_,h=>by cases h
 |_::_,[],h=>by cases h
 |l::ls,v::vs,h=>by
  simp[fH,abw] at h;intro u hu;rcases List.mem_cons.1 hu with rfl|hu
  .grind [HN]
  .exact sU h.2 u hu
theorem Pb {ls}{cs}(h:fH ls cs.toList=true) n:Instr.sameBits (n+1) (.agg cs) (.agg cs)=true:=by
 simp only[Instr.sameBits,abw,beq_self_eq_true,anX,al1];intro p hp;have hz:∀(l:δ) (p:ξ×ξ),p∈l.zip l->p.1=p.2/\p.1∈l:=by
  intro l
  induction l with
  |nil=>intro p hp;simp at hp
  |cons a l ih=>
   grind [List.zip_cons_cons]
 obtain⟨e,hm⟩:=hz _ p hp;obtain⟨_,l,hl⟩:=sU h _ hm
 grind [HP]
theorem Rk {t}{x}(hx:qW P t x=true):Nd P t x:=by
 have hx0:=hx;unfold qW at hx;split at hx
 .rename_i K hK;have hy0:∀y,qW P t y=true->VL K y=true:=λy hy=>by grind [qW]
  unfold Oy at hK;split at hK
  ·-- struct
   rename_i fs hu;split at hK
   .rename_i ls hst hfs;cases hK;obtain⟨cs,rfl,hc⟩:=y7 hx;refine⟨λy hy w=>?_,λem w=>?_,Pb hc _,λy hy kd=>?_,λι v' hr=>hr.TT λv hv=>(sU hc v hv).1⟩
    .obtain⟨ds,rfl,hd⟩:=y7 (hy0 y hy);have hff:P.fieldsOf t=fs:=(by unfold Program.fieldsOf;rw[hu]);have:=run_equalIn_struct w 9999 t cs ds (by rw[hff];exact hu) hst;unfold Op.equal Op.maxDepth;rw[this,hff];have:=O9 fs.toList 0 ls 9998 w hfs hc hd;simpa[DO] using this
    .show (Instr.checkKey em (9999+1) t (.agg cs)).run P w=_;rw[Instr.checkKey];simp only[Sem.run_bind,aI hu,Result.andThen_ok];rw[<-Array.forIn_toList];have:=HO em 9998 fs.toList 0 ls hfs hc w
     simp_all
    .obtain⟨ds,rfl,hd⟩:=y7 (hy0 y hy);cases kd<;>exact .inl rfl
   .cases hK
  ·-- array
   rename_i n e hu;split at hK
   .rename_i l hl;cases hK;obtain⟨cs,rfl,hc⟩:=y7 hx;obtain⟨hs1,_⟩:=sT hl;obtain⟨i,hi,hsz⟩:∃i,P.info? e=some i/\i.size=1:=by
     grind [bU,Option.some.inj]
    have hco:P.cellsOf e=1:=(by simp[Program.cellsOf,hi,hsz]);obtain⟨hn,hall⟩:=yG hc;refine⟨λy hy w=>?_,λem w=>?_,Pb hc _,λy hy kd=>?_,λι v' hr=>hr.TT λv hv=>(sU hc v hv).1⟩
    .obtain⟨ds,rfl,hd⟩:=y7 (hy0 y hy);obtain⟨hn2,hall2⟩:=yG hd;unfold Op.equal Op.maxDepth;rw[run_equalIn_array w 9999 cs ds hu hi,hco,List.range_eq_range']
     grind [L7,DO]
    .show (Instr.checkKey em (9999+1) t (.agg cs)).run P w=_;rw[Instr.checkKey];simp only[Sem.run_bind,aI hu,Result.andThen_ok];simp only[Std.Legacy.Range.forIn_eq_forIn_range',Std.Legacy.Range.size,apB,Nat.add_one_sub_one,Nat.div_one];have key:∀(k o:Nat),o+k<=cs.size->(forIn (List.range' o k) PUnit.unit (λi (_:PUnit)=>(do
       Instr.checkKey em 9999 e (<-part e cs (i*(<-sizeOf e)))
       pure (ForInStep.yield PUnit.unit):Sem (ForInStep PUnit)))).run P w=.ok PUnit.unit w:=by
      intro k
      induction k with
      |zero=>intro o _;simp
      |succ k ih=>
       intro o ho;have lt:o<cs.toList.length:=(by simp;omega);have p1:cs[o*1]?=some cs.toList[o]:=(by grind);rw[aoP,List.forIn_cons];simp only[Sem.run_bind,lQ hs1,Result.andThen_ok,qm hl p1,yF hl (hall _ (anJ lt)),Sem.run_pure]
       grind
     simp_all
    .obtain⟨ds,rfl,hd⟩:=y7 (hy0 y hy);cases kd<;>exact .inl rfl
   .cases hK
  .split at hK
   .rename_i l hl;cases hK;have hx:=Jt hx;refine⟨λy hy w=>?_,λem w=>?_,HP hx _,λy hy kd=>?_,λι v' hr=>hr.M9 (HN hx)⟩
    .rw[TW hx];exact Ed hl hx (Jt (hy0 y hy)) 9999 w
    .grind [yF]
    grind [TW,YW,Jt]
   .cases hK
 .cases hx
def uo (k:ξ):List MapEntry->Nat->Option (Nat×ξ)
 |[],_=>none
 |e::r,i=>match DO k e.key with
  |true=>some (i,e.val)
  |false=>uo k r (i+1)
theorem findNow_spec {t}{k}(hk:Nd P t k) kd:∀es i ,(∀e∈es,qW P t e.key=true) ->
  Instr.findNow kd k es i=none\/Instr.findNow kd k es i=some (uo k es i)
 |[],i,_=>.inr rfl
 |e::es,i,h=>by
  simp[Instr.findNow,uo];rcases hk.now e.key (h e (IS ..)) kd with h1|h1
  .rw[h1];exact .inl rfl
  .rw[h1];cases DO k e.key
   .exact findNow_spec hk kd es (i+1) λe he=>h e (BY _ he)
   .exact .inr rfl
theorem BB {t}{k}(hk:Nd P t k) w:∀es i ,(∀e∈es,qW P t e.key=true) ->
  (Instr.findAsking t k es i).run P w=.ok (uo k es i) w
 |[],i,_=>by simp[Instr.findAsking,uo]
 |e::es,i,h=>by
  have ih:=BB hk w es (i+1) λe he=>h e (BY _ he);simp only[Instr.findAsking,uo,Sem.run_bind,hk.eq e.key (h e (IS ..)) w,Result.andThen_ok];cases DO k e.key
  .simpa using ih
  .simp
theorem yd {t}{k}{d}(hd:P.underlying t=some d)(hk:Nd P t k) w {es}(h:∀e∈es,qW P t e.key=true) :
  (Instr.findKey t k es).run P w=.ok (uo k es 0) w:=by
 simp[Instr.findKey,Sem.run_bind,aI hd,Result.andThen_ok];rcases findNow_spec hk d es 0 h with h1|h1
 .grind [BB]
 .rw[h1];simp
theorem yE.keys {t}:∀{es} {es'},yE P ι t es es'->∀e∈es',qW P t e.key=true
 |[],[],_=>by simp
 |[],_::_,h=>h.elim
 |_::_,[],h=>h.elim
 |e::r,e'::r',h=>λx hx=>by
  rcases List.mem_cons.1 hx with rfl|hx
  .rw[h.1];exact h.2.1
  .exact yE.keys h.2.2.2.2 x hx
theorem yE.length {t}:∀{es} {es'},yE P ι t es es'->es.length=es'.length
 |[],[],_=>rfl
 |[],_::_,h=>h.elim
 |_::_,[],h=>h.elim
 |e::r,e'::r',h=>by simp[yE.length h.2.2.2.2]
theorem yE.find {t} k:∀{es} {es'} i ,yE P ι t es es' ->
  (iq k es=none/\uo k es' i=none)\/∃e v' j,iq k es=some e/\uo k es' i=some (i+j,v')/\aN P ι e.val v'/\e.key=k/\∃e',es'[j]?=some e'/\e'.key=k/\e'.born=e.born/\e'.val=v'
 |[],[],i,_=>.inl ⟨rfl,rfl⟩
 |[],_::_,_,h=>h.elim
 |_::_,[],_,h=>h.elim
 |e::r,e'::r',i,h=>by
  simp only[iq,uo,h.1];cases hv:DO k e.key
  .rcases yE.find k (i+1) h.2.2.2.2 with⟨h1,h2⟩|⟨v,v',j,h1,h2,h3,h3b,e2,h4,h5⟩
   .exact .inl ⟨h1,h2⟩
   .exact .inr ⟨v,v',j+1,h1,by grind,h3,h3b,e2,by simpa using h4,h5⟩
  .exact .inr ⟨_,_,0,rfl,rfl,h.2.2.1,(Rj hv).symm,e',rfl,by rw[h.1,Rj hv],h.2.2.2.1,rfl⟩
theorem yE.Nf {t}{k v v'}{c}(hk:qW P t k=true)(hv:aN P ι v v'):∀{es} {es'} i ,yE P ι t es es'->uo k es' i=none ->
  yE P ι t (sO k v c es) (es'++[{ key:=k,val:=v',born:=c }])
 |[],[],i,_,_=>⟨rfl,hk,hv,rfl,trivial⟩
 |[],_::_,_,h,_=>h.elim
 |_::_,[],_,h,_=>h.elim
 |e::r,e'::r',i,h,hf=>by
  simp[uo,h.1] at hf;simp only[sO];cases hq:DO k e.key
  .rw[hq] at hf;exact⟨h.1,h.2.1,h.2.2.1,h.2.2.2.1,yE.Nf hk hv (i+1) h.2.2.2.2 hf⟩
  grind
theorem Ju {k}:∀l a b u ,uo k l a=some (b,u)->a<=b
 |[],a,b,u,h=>by cases h
 |x::l,a,b,u,h=>by
  simp[uo] at h;split at h
  .cases h;omega
  .have:=Ju l _ _ _ h;omega
theorem yE.TY {t}{k v v' u}{c}(hk:qW P t k=true)(hv:aN P ι v v'):∀{es} {es'} i j ,yE P ι t es es'->uo k es' i=some (i+j,u) ->
  yE P ι t (sO k v c es) (es'.modify j λe=>{ e with key:=k,val:=v' })
 |[],[],i,j,_,hf=>by cases hf
 |[],_::_,_,_,h,_=>h.elim
 |_::_,[],_,_,h,_=>h.elim
 |e::r,e'::r',i,j,h,hf=>by
  simp[uo,h.1] at hf;simp[sO];cases hq:DO k e.key
  .rw[hq] at hf;simp at hf;have:=Ju _ _ _ _ hf;obtain⟨j,rfl⟩:∃q,j=q+1:=⟨j-1,by omega⟩;have:=yE.TY (c:=c) hk hv (i+1) j h.2.2.2.2 (by rw[hf];congr 2;omega);simpa using⟨h.1,h.2.1,h.2.2.1,h.2.2.2.1,this⟩
  .rw[hq] at hf;simp only[acU,aof] at hf;obtain rfl:j=0:=by omega
   rw[apQ];exact⟨rfl,hk,hv,h.2.2.2.1,h.2.2.2.2⟩
theorem yE.Pc {t}{k u}:∀{es} {es'} i j ,yE P ι t es es'->uo k es' i=some (i+j,u) ->
  es'.modify j (λe=>{ e with key:=k })=es'
 |[],[],i,j,_,hf=>by cases hf
 |[],_::_,_,_,h,_=>h.elim
 |_::_,[],_,_,h,_=>h.elim
 |e::r,e'::r',i,j,h,hf=>by
  simp[uo,h.1] at hf;cases hq:DO k e.key
  .rw[hq] at hf;simp at hf;have:=Ju _ _ _ _ hf;obtain⟨j,rfl⟩:∃q,j=q+1:=⟨j-1,by omega⟩;have:=yE.Pc (i+1) j h.2.2.2.2 (by rw[hf];congr 2;omega);simpa using this
  .rw[hq] at hf;simp only[acU,aof] at hf;obtain rfl:j=0:=by omega
   rw[apQ,Rj hq,<-h.1]
theorem yE.cM {t}{v v'}{b}(hv:aN P ι v v'):∀{es es2} {es'},yE P ι t es es'->LX b v es=some es2 ->
  ∃j,es'.findIdx? (λe=>(e.born:Int)==(b:Int))=some j/\yE P ι t es2 (es'.modify j λe=>{ e with val:=v' })
 |[],_,[],_,hf=>by cases hf
 |[],_,_::_,h,_=>h.elim
 |_::_,_,[],h,_=>h.elim
 |e::r,es2,e'::r',h,hf=>by
  simp[LX] at hf;have hb:((e'.born:Int)==(b:Int))=Nat.beq e.born b:=by
   rw[h.2.2.2.1,ao3,beq_iff_eq];constructor
   .intro e1;have:e.born=b:=by omega
    simp_all
   simp_all
  rw[List.findIdx?_cons,hb];cases hq:Nat.beq e.born b
  .rw[hq] at hf;simp at hf;split at hf
   .rename_i l hl;cases hf;obtain⟨j,h1,h2⟩:=yE.cM hv h.2.2.2.2 hl;refine⟨j+1,by simp[h1],?_⟩;simpa using⟨h.1,h.2.1,h.2.2.1,h.2.2.2.1,h2⟩
   .cases hf
  .rw[hq] at hf;cases hf;exact⟨0,by simp,by simpa using⟨h.1,h.2.1,hv,h.2.2.2.1,h.2.2.2.2⟩⟩
theorem Rel.o8 (R:Rel P W0 ι h w){m r}{t}{es}{es0 es'}{c0 c}(hm:ι.mp m=some r)(hb:w.heap[r]?=some (.map es0 c0))
  (hes:yE P ι t es es'.toList):Rel P W0 ι (h.o8 m ⟨t,c,es⟩) { w with heap:=w.heap.setIfInBounds r (.map es' c) }:=by
 have hr:=(Array.getElem?_eq_some_iff.1 hb).1;have hget:∀i:Nat,(w.heap.setIfInBounds r (.map es' c))[i]?=if i=r then some (.map es' c) else w.heap[i]?:=λi=>by
  grind
 have hcells:∀(i:Nat) cc e fz,w.heap[i]?=some (.cells cc e fz)->(w.heap.setIfInBounds r (.map es' c))[i]?=some (.cells cc e fz):=λi cc e fz hi=>by
  grind
 have hcell:∀a v,w.cell? a=some v->World.cell? { w with heap:=w.heap.setIfInBounds r (.map es' c) } a=some v:=by
  grind [World.cell?]
 have hmg:∀j,(h.o8 m ⟨t,c,es⟩).jz j=if j=m then some ⟨t,c,es⟩ else h.jz j:=λj=>bf _ _ _ _;refine⟨λi o hi=>?_,R.zN,R.nx,λb l hl=>?_,λb c1 g base e hb1=>?_,R.jo,R.qI,R.os,R.GL,⟨λm' hm'=>?_,λm' r' hm'=>?_,R.mp.inj,λm' x1 hm'=>?_⟩⟩
 .simp[hget];rw[AT (λx=>by subst x;rw[(R.mp.loc m i hm).1] at hi;cases hi)];exact R.lA i o hi
 .obtain⟨cc,fz,q1,q2⟩:=R.loc b l hl;exact⟨cc,fz,hcells _ _ _ _ q1,q2⟩
 .obtain⟨l,q1,q2,q3,q4,q5⟩:=R.live b c1 g base e hb1
  grind
 .have q:=R.mp.zN m' hm'
  grind
 .refine⟨(R.mp.loc m' r' hm').1,?_⟩;simp[hget];by_cases e:r'=r
  .grind
  .rw[AT e];exact (R.mp.loc m' r' hm').2
 .rw[hmg] at hm';by_cases e:m'=m
  .grind
  .rw[AT e] at hm';obtain⟨r',es2,q1,q2,q3⟩:=R.mp.live m' x1 hm';have hne:r'≠r:=λx=>by subst x;exact e (R.mp.inj m' m _ q1 hm)
   grind
theorem Pe (R:Rel P W0 ι h w){kt}{m}(hx:Bs kt h=some (m,h1)) :
  ∃ι',ι.le ι'/\ι'.mp m=some w.heap.size/\Rel P W0 ι' h1 { w with heap:=w.heap.push (.map #[] 0) }:=by
 unfold Bs at hx;cases hx;have hd:=R.mp.zN h.next R.unused
 have hle:ι.le ⟨ι.f,λj=>if j=h.next then some w.heap.size else ι.mp j⟩:=by
  refine⟨λ_ _ x=>x,λm r hm=>?_⟩
  grind
 have hused:∀b,({ h.o8 h.next ⟨kt,0,[]⟩ with next:=h.next+1,used:=λj=>cond (Nat.beq j h.next) true (h.used j) }:ai).used b=if b=h.next then true else h.used b:=λb=>bf _ _ _ _
 have hus:∀b,({ h.o8 h.next ⟨kt,0,[]⟩ with next:=h.next+1,used:=λj=>cond (Nat.beq j h.next) true (h.used j) }:ai).used b=false->b≠h.next/\h.used b=false:=λb hb=>by
  grind
 refine⟨_,hle,by simp,?_⟩;have hnone:W0 w.heap.size=none:=by
  cases hq:W0 w.heap.size with
  |none=>rfl
  |some o=>have:=(Array.getElem?_eq_some_iff.1 (R.lA _ o hq)).1;omega
 have hlt:∀(i:Nat) o,w.heap[i]?=some o->(w.heap.push (.map #[] 0))[i]?=some o:=λi o hi=>by
  grind
 have hmg:∀j,(h.o8 h.next ⟨kt,0,[]⟩).jz j=if j=h.next then some ⟨kt,0,[]⟩ else h.jz j:=λj=>bf _ _ _ _
 refine⟨λi o hi=>hlt _ _ (R.lA i o hi),λb hb=>R.zN b (hus b hb).2,λb hb=>?_,λb l hl=>?_,λb c1 g base e hb1=>?_,R.jo,λb c1 g base e hb1 hg=>?_,R.os,R.GL,⟨λm' hm'=>?_,λm' r' hm'=>?_,λm1 m2 r h1 h2=>?_,λm' x1 hm'=>?_⟩⟩
 .have hb:h.next+1<=b:=hb
  refine (hused b).trans ?_;rw[AT (by omega)];exact R.nx b (by omega)
 .obtain⟨cc,fz,q1,q2⟩:=R.loc b l hl;exact⟨cc,fz,hlt _ _ q1,q2⟩
 .obtain⟨l,q1,q2,q3,q4,q5⟩:=R.live b c1 g base e hb1;exact⟨l,q1,q2,q3,q4,λi v hv=>let ⟨v',a,b,d⟩:=q5 i v hv;⟨v',GK _ _ a,b,d.mono hle⟩⟩
 .obtain⟨q1,q2⟩:=R.qI b c1 g base e hb1 hg;refine⟨q1,(hused _).trans ?_⟩
  grind
 .obtain⟨hne,hu⟩:=hus m' hm';refine⟨?_,?_⟩
  .refine (hmg m').trans ?_;rw[AT hne];exact (R.mp.zN m' hu).1
  .simp[AT hne];exact (R.mp.zN m' hu).2
 .by_cases e:m'=h.next
  .grind
  .simp[AT e] at hm';obtain⟨q1,es,c,q2⟩:=R.mp.loc m' r' hm'
   grind
 .have lA:∀m r,ι.mp m=some r->r<w.heap.size:=λm r hm=>by
   obtain⟨_,es,c,q⟩:=R.mp.loc m r hm
   grind
  by_cases e1:m1=h.next<;>by_cases e2:m2=h.next
  .rw[e1,e2]
  .grind
  .grind
  .simp[AT e1] at h1;simp[AT e2] at h2;exact R.mp.inj _ _ _ h1 h2
 .replace hm':=(hmg m').symm.trans hm'
  by_cases e:m'=h.next
  .rw[By e] at hm';cases hm';exact⟨w.heap.size,#[],by simp[e],by simp,trivial⟩
  .rw[AT e] at hm';obtain⟨r',es2,q1,q2,q3⟩:=R.mp.live m' x1 hm';exact⟨r',es2,by simp[e,q1],hlt _ _ q2,q3.mono hle⟩
theorem Lk (R:Rel P W0 ι h w){k}{kt}{m}(hx:sP k kt h=some (m,h1)) :
  ∃ι',ι.le ι'/\ι'.mp m=some w.heap.size/\Rel P W0 ι' h1 { w with heap:=w.heap.push (.map #[] 0) }:=by
 unfold sP at hx;split at hx
 case isFalse=>cases hx
 rename_i hk;simp at hx;obtain⟨hkm,rfl⟩:=hx;subst hkm;have hd:=R.mp.zN k hk.1;have hle:ι.le ⟨ι.f,λj=>if j=k then some w.heap.size else ι.mp j⟩:=by
  refine⟨λ_ _ x=>x,λm' r hm=>?_⟩
  grind
 have hused:∀b,(h.Bt k kt).used b=if b=k then true else h.used b:=λb=>bf _ _ _ _;have hus:∀b,(h.Bt k kt).used b=false->b≠k/\h.used b=false:=λb hb=>by
  grind
 refine⟨_,hle,by simp,?_⟩;have hnone:W0 w.heap.size=none:=by
  cases hq:W0 w.heap.size with
  |none=>rfl
  |some o=>have:=(Array.getElem?_eq_some_iff.1 (R.lA _ o hq)).1;omega
 have hlt:∀(i:Nat) o,w.heap[i]?=some o->(w.heap.push (.map #[] 0))[i]?=some o:=λi o hi=>by
  grind
 have hmg:∀j,(h.o8 k ⟨kt,0,[]⟩).jz j=if j=k then some ⟨kt,0,[]⟩ else h.jz j:=λj=>bf _ _ _ _;refine⟨λi o hi=>hlt _ _ (R.lA i o hi),λb hb=>R.zN b (hus b hb).2,λb hb=>?_,λb l hl=>?_,λb c1 g base e hb1=>?_,R.jo,λb c1 g base e hb1 hg=>?_,R.os,R.GL,⟨λm' hm'=>?_,λm' r' hm'=>?_,λm1 m2 r h1 h2=>?_,λm' x1 hm'=>?_⟩⟩
 .have hb:h.next<=b:=hb
  refine (hused b).trans ?_;rw[AT (by have:=hk.2.1;omega)];exact R.nx b hb
 .obtain⟨cc,fz,q1,q2⟩:=R.loc b l hl;exact⟨cc,fz,hlt _ _ q1,q2⟩
 .obtain⟨l,q1,q2,q3,q4,q5⟩:=R.live b c1 g base e hb1;exact⟨l,q1,q2,q3,q4,λi v hv=>let ⟨v',a,b,d⟩:=q5 i v hv;⟨v',GK _ _ a,b,d.mono hle⟩⟩
 .obtain⟨q1,q2⟩:=R.qI b c1 g base e hb1 hg;refine⟨q1,(hused _).trans ?_⟩
  grind
 .obtain⟨hne,hu⟩:=hus m' hm';refine⟨?_,?_⟩
  .refine (hmg m').trans ?_;rw[AT hne];exact (R.mp.zN m' hu).1
  .simp[AT hne];exact (R.mp.zN m' hu).2
 .by_cases e:m'=k
  .grind
  .simp[AT e] at hm';obtain⟨q1,es,c,q2⟩:=R.mp.loc m' r' hm'
   grind
 .have lA:∀k r,ι.mp k=some r->r<w.heap.size:=λk r hm=>by
   obtain⟨_,es,c,q⟩:=R.mp.loc k r hm
   grind
  by_cases e1:m1=k<;>by_cases e2:m2=k
  .rw[e1,e2]
  .grind
  .grind
  .simp[AT e1] at h1;simp[AT e2] at h2;exact R.mp.inj _ _ _ h1 h2
 .replace hm':=(hmg m').symm.trans hm'
  by_cases e:m'=k
  .rw[By e] at hm';cases hm';exact⟨w.heap.size,#[],by simp[e],by simp,trivial⟩
  .rw[AT e] at hm';obtain⟨r',es2,q1,q2,q3⟩:=R.mp.live m' x1 hm';exact⟨r',es2,by simp[e,q1],hlt _ _ q2,q3.mono hle⟩
theorem aN.Rl {m}{v'}(hr:aN P ι (.map m) v'):(m=none/\v'=.map none)\/∃a r,m=some a/\v'=.map (some r)/\ι.mp a=some r:=by
 cases hr with
 |flat _ hf=>cases m with
  |none=>exact .inl ⟨rfl,rfl⟩
  |some a=>simp[dO] at hf
 |map a r hr=>grind
def Ee {kt}{m}{c}{es}(hx:h.Fk kt m=some (c,es)):h.jz m=some ⟨kt,c,es⟩:=by
 unfold ai.Fk at hx;split at hx
 .rename_i x hg;split at hx
  .rename_i hb;cases hx;rw[hg,<-IT hb]
  .cases hx
 .cases hx
theorem Ng {t}{v}{x}(hx:Ox t v=some x):v=GH t x:=by
 cases t with
 |one l=>exact vA hx
 |agg ls=>
  cases v<;>simp only[Ox] at hx<;>try cases hx
  rename_i cs;rw[GH,<-GM hx]
theorem GP {kt}{k}(h:qW P kt k=true):∃d,P.underlying kt=some d:=by
 unfold qW at h;split at h
 .rename_i K hK;unfold Oy at hK;split at hK
  .grind
  .grind
  .split at hK
   .rename_i l hl;obtain⟨_,⟨k,h1,_⟩|⟨h1,_⟩|⟨h1,_⟩⟩:=sT hl<;>exact⟨_,h1⟩
   .cases hK
 .cases h
theorem Nh (R:Rel P W0 ι h w){t k e}(ht:P.underlying t=some (.map k e)){m}{x' kv kv'}(hm:aN P ι (.map m) x')(hk:qW P k kv=true)(hkr:aN P ι kv kv')
  {T} {zv} (hz:zeroOf P e=some zv) {z} (huz:Ox T zv=some z) {ok} {r} (hx:vx k T z m kv h=some (r,h1)) :
  gF P W0 ι w (Instr.lookup t x' kv' ok) (match ok with|true=>.tuple #[GH T r.2,.bool r.1] | false=>GH T r.2) h1:=by
 have K:=Rk hk;obtain rfl:=(K.flat _ _ hkr).symm;obtain⟨d,hd⟩:=GP hk;obtain⟨_,hz1,_⟩:=fE hz;have hzz:=Ng huz;have hzf:aN P ι zv zv:=by
  obtain⟨q,_⟩:=fE hz;cases zv with
  |agg cs=>
   refine .agg _ _ rfl ?_;intro i u u' a b;rw[a] at b;cases b;exact .flat _ (List.all_eq_true.1 q u (by simpa[Value.cells] using ao1 a))
  |_=>exact .flat _ (by simpa[Value.cells] using q)
 have fin:∀(b:Bool) (x:T.den) (v':ξ),aN P ι (GH T x) v' ->
   aN P ι (match ok with|true=>.tuple #[GH T x,.bool b] | false=>GH T x) (if ok then .tuple #[v',.bool b] else v'):=by
  intro b x v' hv;cases ok
  .exact hv
  .refine .tuple _ _ rfl λi u u' a c=>?_
   match i with
   |0=>grind
   |1=>simp at a c;subst a;subst c;exact .ofBool
   |i+2=>simp at a
 unfold vx at hx;split at hx
 .cases hx;rcases hm.Rl with⟨_,rfl⟩|⟨a,r,h2,_⟩
  .have hfk:(Instr.findKey k kv #[].toList).run P w=.ok none w:=yd hd K w (by simp);refine .ret ?_ (fin false z zv (by rw[<-hzz];exact hzf)) R;simp at hfk;cases ok<;>simp[Instr.lookup,aI ht,K.tX,hfk,hz1]
  .cases h2
 .rename_i m0;rcases hm.Rl with⟨h2,_⟩|⟨a,r0,h2,rfl,hr0⟩
  .cases h2
  .cases h2;split at hx
   .rename_i c es hes;obtain⟨r1,es',q1,q2,q3⟩:=R.mp.live _ _ (Ee hes);rw[hr0] at q1;cases q1;have hfk:=yd hd K w q3.keys;have hgo:=MapKept.run_getObj_map (P:=P) q2;split at hx
    .rename_i v hv;split at hx
     .rename_i x hux;cases hx;unfold Br at hv;rcases yE.find kv 0 q3 with⟨h3,_⟩|⟨v1,v',j,h3,h4,h5,_⟩
      .rw[h3] at hv;cases hv
      .rw[h3] at hv;cases hv;rw[h4] at hfk;refine .ret ?_ (fin true x v' (by grind [Ng])) R;cases ok<;>simp[Instr.lookup,aI ht,K.tX,hgo,hfk]
     .cases hx
    .rename_i hv;cases hx;unfold Br at hv;rcases yE.find kv 0 q3 with⟨h3,h4⟩|⟨v1,v',j,h3,h4,h5,_⟩
     .rw[h4] at hfk;refine .ret ?_ (fin false z zv (by rw[<-hzz];exact hzf)) R;cases ok<;>simp[Instr.lookup,aI ht,K.tX,hgo,hfk,hz1]
     grind
   .cases hx
def AK (R:Rel P W0 ι h w){t k e}(ht:P.underlying t=some (.map k e)){m}{x' kv kv' v v'}(hm:aN P ι (.map m) x')(hk:qW P k kv=true)(hkr:aN P ι kv kv')(hv:aN P ι v v')
  {u} (hx:DP k m kv v h=some (u,h1)):∃w',(Instr.mapUpdate t x' kv' v').run P w=.ok () w'/\Rel P W0 ι h1 w':=by
 have K:=Rk hk;obtain rfl:=(K.flat _ _ hkr).symm;obtain⟨d,hd⟩:=GP hk;unfold DP at hx;split at hx
 .cases hx
 .rename_i m0;rcases hm.Rl with⟨h2,_⟩|⟨a,r0,h2,rfl,hr0⟩
  .cases h2
  .cases h2;split at hx
   .rename_i c es hes;cases hx;obtain⟨r1,es',q1,q2,q3⟩:=R.mp.live _ _ (Ee hes);rw[hr0] at q1;cases q1;have hfk:=yd hd K w q3.keys;have hgo:=MapKept.run_getObj_map (P:=P) q2;have hst:(Instr.keyThatStays kv kv).run P w=.ok kv w:=(by simp[Instr.keyThatStays,K.same]);rcases yE.find kv 0 q3 with⟨h3,h4⟩|⟨v1,v2,j,h3,h4,h5,h5b,e',h6,h7,h8,h9⟩
    .rw[h4] at hfk;have hes2:yE P ι k (sO kv v c es) (es'.push { key:=kv,val:=v',born:=c }).toList:=(by simpa using yE.Nf hk hv 0 q3 h4);simp at h3;simp[h3];refine⟨{ w with heap:=w.heap.setIfInBounds r0 (.map (es'.push { key:=kv,val:=v',born:=c }) (c+1)) },?_,R.o8 hr0 q2 hes2⟩
     .simp[Instr.mapUpdate,aI ht,hgo,K.tX,hfk,MapKept.run_setObj_map _ q2]
    .rw[h4] at hfk;have h6':es'[j]?=some e':=(by simpa using h6);have hes2:yE P ι k (sO kv v c es) (es'.modify j λe=>{ e with key:=kv,val:=v' }).toList:=by
      have:=yE.TY (c:=c) hk hv 0 j q3 h4;simpa using this
     simp at h3;simp[h3];refine⟨{ w with heap:=w.heap.setIfInBounds r0 (.map (es'.modify j λe=>{ e with key:=kv,val:=v' }) c) },?_,R.o8 hr0 q2 hes2⟩
     .simp[Instr.mapUpdate,aI ht,hgo,K.tX,hfk,MapKept.run_setObj_map _ q2,h6',h7,hst]
   .cases hx
theorem Jv (R:Rel P W0 ι h w){t k e}(ht:P.underlying t=some (.map k e)){m}{x' kv kv'}(hm:aN P ι (.map m) x')(hk:qW P k kv=true)(hkr:aN P ι kv kv')
  {T} {zv} (hz:zeroOf P e=some zv) {z} (huz:Ox T zv=some z) {r} (hx:zK k T z m kv h=some (r,h1)) :
  gF P W0 ι w (Instr.mapEntry t x' kv') (.tuple #[GH T r.1,.int .i64 r.2]) h1:=by
 have K:=Rk hk;obtain rfl:=(K.flat _ _ hkr).symm;obtain⟨d,hd⟩:=GP hk;obtain⟨_,hz1,_⟩:=fE hz;have hzz:=Ng huz;have hzf:aN P ι zv zv:=by
  obtain⟨q,_⟩:=fE hz;cases zv with
  |agg cs=>
   refine .agg _ _ rfl ?_;intro i u u' a b;rw[a] at b;cases b;exact .flat _ (List.all_eq_true.1 q u (by simpa[Value.cells] using ao1 a))
  |_=>exact .flat _ (by simpa[Value.cells] using q)
 have fin:∀(b:Nat) (x:T.den) (v':ξ),aN P ι (GH T x) v'->aN P ι (.tuple #[GH T x,.int .i64 b]) (.tuple #[v',.int .i64 b]):=by
  intro b x v' hv;refine .tuple _ _ rfl λi u u' a c=>?_
  match i with
  |0=>grind
  |1=>simp at a c;subst a;subst c;exact .ofInt
  |i+2=>simp at a
 unfold zK at hx;split at hx
 .cases hx
 .rename_i m0;rcases hm.Rl with⟨h2,_⟩|⟨a,r0,h2,rfl,hr0⟩
  .cases h2
  .cases h2;split at hx
   .rename_i c es hes;obtain⟨r1,es',q1,q2,q3⟩:=R.mp.live _ _ (Ee hes);rw[hr0] at q1;cases q1;have hfk:=yd hd K w q3.keys;have hgo:=MapKept.run_getObj_map (P:=P) q2;have hst:(Instr.keyThatStays kv kv).run P w=.ok kv w:=(by simp[Instr.keyThatStays,K.same]);split at hx
    .rename_i e0 hv;split at hx
     .rename_i x hux;cases hx;rcases yE.find kv 0 q3 with⟨h3,h4⟩|⟨v1,v2,j,h3,h4,h5,h5b,e',h6,h7,h8,h9⟩
      .rw[h3] at hv;cases hv
      .rw[h3] at hv;cases hv;rw[h4] at hfk;have h6':es'[j]?=some e':=(by simpa using h6);have hsame:es'.modify j (λe=>{ e with key:=kv })=es':=by
        apply alY;simpa using yE.Pc 0 j q3 h4
       refine⟨.tuple #[v2,.int .i64 e0.born],{ w with heap:=w.heap.setIfInBounds r0 (.map es' c) },ι,?_,fin _ _ _ (by grind [Ng]),?_,.refl _⟩
       .simp[Instr.mapEntry,aI ht,hgo,K.tX,hfk,MapKept.run_setObj_map _ q2,h6',h7,h8,hst,hsame,goInt]
       .have hid:w.heap.setIfInBounds r0 (.map es' c)=w.heap:=by
         apply apq;intro i;rw[an2];by_cases hi:r0=i
         .grind
         .rw[AT hi]
        rw[hid];exact R
     .cases hx
    .rename_i hv;cases hx;rcases yE.find kv 0 q3 with⟨h3,h4⟩|⟨v1,v2,j,h3,h4,h5,h5b,e',h6,h7,h8,h9⟩
     .rw[h4] at hfk;refine⟨.tuple #[zv,.int .i64 c],{ w with heap:=w.heap.setIfInBounds r0 (.map (es'.push { key:=kv,val:=zv,born:=c }) (c+1)) },ι,?_,fin c z zv (by rw[<-hzz];exact hzf),R.o8 hr0 q2 ?_,.refl _⟩
      .simp[Instr.mapEntry,aI ht,hgo,K.tX,hfk,MapKept.run_setObj_map _ q2,hz1,goInt]
      .rw[<-hzz];simpa using yE.Nf hk hzf 0 q3 h4
     grind
   .cases hx
def GQ (R:Rel P W0 ι h w){t}{m}{x' v v'}{kk}{st}(hm:aN P ι (.map m) x')(hv:aN P ι v v')
  {u} (hx:zL m st v h=some (u,h1)):∃w',(Instr.entryStore t x' (.int kk st) v').run P w=.ok () w'/\Rel P W0 ι h1 w':=by
 unfold zL at hx;split at hx
 .cases hx
 .rename_i m0;rcases hm.Rl with⟨h2,_⟩|⟨a,r0,h2,rfl,hr0⟩
  .cases h2
  .cases h2;split at hx
   .rename_i x hes;split at hx
    .rename_i es hd hp;cases hx;obtain⟨r1,es',q1,q2,q3⟩:=R.mp.live _ _ hes;rw[hr0] at q1;cases q1;have hgo:=MapKept.run_getObj_map (P:=P) q2;obtain⟨j,h3,h4⟩:=yE.cM hv q3 hp;have hst:((st.toNat:Nat):Int)=st:=Int.toNat_of_nonneg (anl hd);rw[hst] at h3;have h3':es'.findIdx? (λe=>(e.born:Int)==st)=some j:=by
      rw[List.findIdx?_toArray];exact h3
     refine⟨{ w with heap:=w.heap.setIfInBounds r0 (.map (es'.modify j λe=>{ e with val:=v' }) x.clock) },?_,R.o8 hr0 q2 ?_⟩
     .simp[Instr.entryStore,hgo,asInt,asIntOf,h3',MapKept.run_setObj_map _ q2]
     .simpa using h4
    .cases hx
   .cases hx
def Pf (R:Rel P W0 ι h w){t k e ty}{ts}(hts:ts[0]?=some t)(ht:P.underlying t=some (.map k e)){m}{x'}(hm:aN P ι (.map m) x')
  {n} (hx:DQ m h=some (n,h1)):gF P W0 ι w (Builtin.len_ ts ty #[x']) (.int .i64 n) h1:=by
 unfold DQ at hx;split at hx
 .cases hx;rcases hm.Rl with⟨_,rfl⟩|⟨a,r,h2,_⟩
  .exact .ret (by simp[Builtin.len_,hts,aI ht,goInt]) .ofInt R
  .cases h2
 .rename_i m0;rcases hm.Rl with⟨h2,_⟩|⟨a,r0,h2,rfl,hr0⟩
  .cases h2
  .cases h2;split at hx
   .rename_i x hes;cases hx;obtain⟨r1,es',q1,q2,q3⟩:=R.mp.live _ _ hes;rw[hr0] at q1;cases q1;have hl:=q3.length;refine .ret ?_ .ofInt R;have hgo:=MapKept.run_getObj_map (P:=P) q2;simp at hl;simp[Builtin.len_,hts,aI ht,goInt,hgo,hl]
   .cases hx
theorem Pg (R:Rel P W0 ι h w){t e ty}{ts}(hts:ts[0]?=some t)(ht:P.underlying t=some (.slice e)){z}(hz:bU P e=some z){a}{n c}{a2}{n2 c2}{x' y'}
  (hd:aN P ι (.slice a n c) x') (hs:aN P ι (.slice a2 n2 c2) y') {k} (hx:Je ⟨a,n,c⟩ ⟨a2,n2,c2⟩ z h=some (k,h1)) :
  gF P W0 ι w (Builtin.copy_ ts ty #[x',y']) (.int .i64 k) h1:=by
 have src:∀cs,bu h a2 (Nat.min n2 n*z)=some cs->∃cs',aW P ι cs cs'/\(Builtin.firstCells z (Nat.min n2 n) y').run P w=.ok cs'.toArray w/\(∀v∈cs,fk v=true):=by
  intro cs hc;cases hs with
  |flat _ hf=>
   cases a2 with
   |some a=>simp[dO] at hf
   |none=>
    simp[bu] at hc;obtain⟨h0,rfl⟩:=hc;exact⟨[],.nil,by simp[Builtin.firstCells],by simp⟩
  |slice b b' n c c' l e1 e2 e3 e4 e5 e6 e7 e8=>
   obtain⟨cs',q1,q2,q3,q4,q5⟩:=vh R ⟨e1,e2,l,e3,e4,e5⟩ hc
   grind [Builtin.firstCells]
  |lP b b' c hce=>
   have:cs=[]:=by
    simp[bu] at hc
    grind
   subst this;exact⟨[],.nil,by simp[Builtin.firstCells,loadCells,loadCellsFrom],by simp⟩
 obtain⟨y2,c3,hy2,_⟩:=hs.slO;obtain⟨x2,c4,hx2,hxn⟩:=hd.slO;have hlen:(Builtin.lenOf y').run P w=.ok n2 w:=by rw[hy2];simp[Builtin.lenOf]
 unfold Je at hx;split at hx
 .rename_i hc;cases hx;obtain⟨cs',q1,q2,_⟩:=src _ hc;have:cs'=[]:=by have:=q1.1;grind
  subst this;refine .ret (v':=.int .i64 (Nat.min n2 n)) ?_ .ofInt R;subst hx2;cases x2<;>simp[Builtin.copy_,hts,aI ht,hlen,lQ hz,q2,storeCells,goInt]
 .rename_i cs hne hc;split at hx
  .cases hx
  .rename_i b hb;split at hx
   .rename_i u h2 hst;cases hx;obtain⟨cs',q1,q2,_⟩:=src _ hc;have hb:a=some b:=hb;subst hb;cases hd with
    |flat _ hf=>simp[dO] at hf
    |slice _ b' n c c' l e1 e2 e3 e4 e5 e6 e7 e8=>
     obtain⟨w',hr,R'⟩:=GN R ⟨e1,e2,l,e3,e4,e5⟩ q1 hst;refine⟨.int .i64 (Nat.min n2 n),w',ι,?_,.ofInt,R',.refl _⟩;simp[Builtin.copy_,hts,aI ht,hlen,lQ hz,q2,goInt,hr]
    |lP _ b' c hce=>
     exfalso;have:cs=[]:=by
      have:Nat.min n2 0*z=0:=(by simp);rw[this] at hc;unfold bu at hc
      grind
     exact hne this
   .cases hx
 .cases hx
end Go.Ago
