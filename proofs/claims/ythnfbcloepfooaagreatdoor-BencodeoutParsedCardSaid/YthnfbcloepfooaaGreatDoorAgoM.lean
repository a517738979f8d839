
import Derived.Test.YthnfbcloepfooaaGreatDoorAgoD
import Derived.ChangeKeysEq
set_option linter.all false
namespace Go.Ago
open Go
variable {P:Program}{W0:Fz}{ι ι':gy}{h h' h1:af}{w w':World}
theorem AU {l:eh}{v:ξ}(h:gZ l v=true):cV v=true:=by
 cases l<;>cases v<;>simp_all[gZ,cV]
theorem n8 {t:κ}{l:eh}(h:qX P t=some l):bP P t=some 1 /\
  ((∃k,P.underlying t=some (.int k)/\l=.int k)\/(P.underlying t=some .bool/\l=.bool)\/(P.underlying t=some .string/\l=.str)):=by
 unfold qX at h
 grind
theorem rR {k:IntKind}{v:ξ}(h:gZ (.int k) v=true):∃n,v=.int k n:=by
 cases v<;>simp only[gZ] at h<;>try cases h
 rename_i k' n;exact⟨n,by rw[EU h]⟩
theorem qd {v:ξ}(h:gZ .bool v=true):∃n,v=.bool n:=by
 cases v<;>simp only[gZ] at h<;>try cases h
 exact⟨_,rfl⟩
theorem rS {v:ξ}(h:gZ .str v=true):∃n,v=.string n:=by
 cases v<;>simp only[gZ] at h<;>try cases h
 exact⟨_,rfl⟩
theorem HJ (k:IntKind):KX k k=true:=by cases k<;>rfl
theorem ye {t:κ}{l:eh}(h:qX P t=some l){v u:ξ}(hv:gZ l v=true)(hu:gZ l u=true)(d:Nat)(w:World) :
  (Op.equalIn (d+1) t v u).run P w=.ok (zO v u) w:=by
 obtain⟨_,⟨k,h1,rfl⟩|⟨h1,rfl⟩|⟨h1,rfl⟩⟩:=n8 h
 .obtain⟨a,rfl⟩:=rR hv;obtain⟨b,rfl⟩:=rR hu;rw[run_equalIn_int w d t _ _ _ _ h1];simp only[zO,HJ,acw];rfl
 .obtain⟨a,rfl⟩:=qd hv;obtain⟨b,rfl⟩:=qd hu;exact run_equalIn_bool w d t _ _ h1
 .obtain⟨a,rfl⟩:=rS hv;obtain⟨b,rfl⟩:=rS hu;rw[run_equalIn_string w d t _ _ h1,<-mZ];rfl
theorem tF {t:κ}{l:eh}(h:qX P t=some l){v:ξ}(hv:gZ l v=true)(em:Bool)(n:Nat)(w:World) :
  (Instr.checkKey em (n+1) t v).run P w=.ok () w:=by
 obtain⟨_,⟨k,h1,rfl⟩|⟨h1,rfl⟩|⟨h1,rfl⟩⟩:=n8 h
 .obtain⟨a,rfl⟩:=rR hv;simp[Instr.checkKey,aL h1]
 .obtain⟨a,rfl⟩:=qd hv;simp[Instr.checkKey,aL h1]
 .obtain⟨a,rfl⟩:=rS hv;simp[Instr.checkKey,aL h1]
theorem lU {t:κ}{l:eh}(h:qX P t=some l){xs:ν}{o:Nat}{v:ξ}(hx:xs[o]?=some v)(w:World):(part t xs o).run P w=.ok v w:=by
 obtain⟨_,⟨k,h1,rfl⟩|⟨h1,rfl⟩|⟨h1,rfl⟩⟩:=n8 h<;>exact Cf h1 rfl hx w
theorem Lg {v u:ξ}(h:zO v u=true):v=u:=by
 cases v<;>cases u<;>simp only[zO,aaf,IT] at h<;>try cases h
 .rename_i a b;simp at h;rw[h]
 .rename_i h1 h2;rw[EU h1,h2]
 .rename_i a b;rw[mZ] at h;have h:=beq_iff_eq.1 h;rw[ByteArray.toList_eq,ByteArray.toList_eq] at h;cases a;cases b;simp at h;rw[h]
theorem Lh:∀{xs ys:δ},xj xs ys=true->xs=ys
 |[],[],_=>rfl
 |[],_::_,h=>by cases h
 |_::_,[],h=>by cases h
 |x::xs,y::ys,h=>by
  simp only[xj,aaf] at h;rw[Lg h.1,Lh h.2]
theorem JD {x y:ξ}(h:vF x y=true):x=y:=by
 unfold vF at h
 grind [Lh,Array.toList_inj,Lg]
theorem HK {xs ys:ν}:∀(fs:List Field) (o:Nat) (ls:List eh) (d:Nat) (w:World),B7 P fs o=some ls->eJ ls (xs.toList.drop o)=true->eJ ls (ys.toList.drop o)=true ->
  (Op.eqFields (d+1) xs ys fs).run P w=.ok (xj (xs.toList.drop o) (ys.toList.drop o)) w
 |[],o,ls,d,w,h,hx,hy=>by
  simp only[B7,IN] at h;subst h;cases h1:xs.toList.drop o with
  |cons=>rw[h1] at hx;simp[eJ] at hx
  |nil=>
   cases h2:ys.toList.drop o with
   |cons=>rw[h2] at hy;simp[eJ] at hy
   |nil=>simp[Op.eqFields,xj]
 |f::fs,o,ls,d,w,h,hx,hy=>by
  simp only[B7] at h;split at h
  .rename_i l ls' hn ho hl hr;cases h;have ho:=IS ho;have hn : f.name ≠ "_" := by intro e; rw[e] at hn; exact absurd hn (by decide)
   cases h1:xs.toList.drop o with
   |nil=>rw[h1] at hx;simp[eJ] at hx
   |cons x xs'=>
    cases h2:ys.toList.drop o with
    |nil=>rw[h2] at hy;simp[eJ] at hy
    |cons y ys'=>
     rw[h1] at hx;rw[h2] at hy;simp only[eJ,aaf] at hx hy;have hx0:xs[o]?=some x:=by
      rw[<-aaM,<-aaG o,<-aaJ,h1];rfl
     have hy0:ys[o]?=some y:=by
      rw[<-aaM,<-aaG o,<-aaJ,h2];rfl
     have hxt:xs.toList.drop (o+1)=xs':=(by rw[<-aa3,h1];rfl);have hyt:ys.toList.drop (o+1)=ys':=(by rw[<-aa3,h2];rfl);have ih:=HK (xs:=xs) (ys:=ys) fs (o+1) ls' d w hr (by rw[hxt];exact hx.2) (by rw[hyt];exact hy.2);rw[hxt,hyt] at ih;unfold Op.eqFields;rw[BY hn,ho];simp only[Sem.run_bind,lU hl hx0,lU hl hy0,Result.andThen_ok,ye hl hx.1 hy.1 d w,xj];cases zO x y
     .simp
     .simp[ih]
  .cases h
theorem AV {xs:ν}(em:Bool)(n:Nat):∀(fs:List Field) (o:Nat) (ls:List eh),B7 P fs o=some ls->eJ ls (xs.toList.drop o)=true ->
  ∀w,(forIn fs PUnit.unit (λf (_:PUnit)=>(do
    if f.name ≠ "_" then Instr.checkKey em (n+1) f.type (<-part f.type xs f.offset)
    pure (ForInStep.yield PUnit.unit):Sem (ForInStep PUnit)))).run P w=.ok PUnit.unit w
 |[],o,ls,h,hx,w=>by simp
 |f::fs,o,ls,h,hx,w=>by
  simp only[B7] at h;split at h
  .rename_i l ls' hn ho hl hr;cases h;have ho:=IS ho;have hn : f.name ≠ "_" := by intro e; rw[e] at hn; exact absurd hn (by decide)
   cases h1:xs.toList.drop o with
   |nil=>rw[h1] at hx;simp[eJ] at hx
   |cons x xs'=>
    rw[h1] at hx;simp only[eJ,aaf] at hx;have hx0:xs[o]?=some x:=by
     rw[<-aaM,<-aaG o,<-aaJ,h1];rfl
    have hxt:xs.toList.drop (o+1)=xs':=(by rw[<-aa3,h1];rfl);have ih:=AV (xs:=xs) em n fs (o+1) ls' hr (by rw[hxt];exact hx.2) w;rw[List.forIn_cons];simp only[hn,ne_eq,not_false_eq_true,aav,Sem.run_bind,ho,lU hl hx0,Result.andThen_ok,tF hl hx.1,Sem.run_pure];simpa using ih
  .cases h
theorem tG {l:eh}:∀{n:Nat} {xs:δ},eJ (List.replicate n l) xs=true->xs.length=n/\∀v∈xs,gZ l v=true
 |0,[],_=>⟨rfl,by simp⟩
 |0,_::_,h=>by cases h
 |n+1,[],h=>by cases h
 |n+1,x::xs,h=>by
  rw[abv] at h;simp only[eJ,aaf] at h;obtain⟨h1,h2⟩:=tG h.2
  grind
theorem Eg {e:κ}{l:eh}(hl:qX P e=some l){xs ys:ν}(hx:∀v∈xs.toList,gZ l v=true)(hy:∀v∈ys.toList,gZ l v=true)(d:Nat)(w:World) :
  ∀(k o:Nat),xs.size=o+k->ys.size=o+k->(Op.eqItems (d+1) e 1 xs ys (List.range' o k)).run P w=.ok (xj (xs.toList.drop o) (ys.toList.drop o)) w
 |0,o,h1,h2=>by
  have e1:xs.toList.drop o=[]:=aah (by simp;omega);have e2:ys.toList.drop o=[]:=aah (by simp;omega);simp[Op.eqItems,e1,e2,xj]
 |k+1,o,h1,h2=>by
  have ih:=Eg hl hx hy d w k (o+1) (by omega) (by omega);have l1:o<xs.toList.length:=by simp;omega
  have l2:o<ys.toList.length:=by simp;omega
  rw[aay l1,aay l2,abU,Op.eqItems];have p1:xs[o*1]?=some xs.toList[o]:=by grind
  have p2:ys[o*1]?=some ys.toList[o]:=by grind
  simp only[Sem.run_bind,lU hl p1,lU hl p2,Result.andThen_ok,ye hl (hx _ (abn l1)) (hy _ (abn l2)) d w,xj];cases zO xs.toList[o] ys.toList[o]
  .simp
  grind
theorem Cj {l:eh}{v:ξ}(h:MF (.one l) v=true):gZ l v=true:=by
 unfold MF at h;exact h
theorem ub {ls:List eh}{v:ξ}(h:MF (.agg ls) v=true):∃cs,v=.agg cs/\eJ ls cs.toList=true:=by
 cases v<;>simp only[MF] at h<;>try cases h
 exact⟨_,rfl,h⟩
theorem Li {l:eh}{v u:ξ}(h:gZ l v=true):vF v u=zO v u:=by
 cases v<;>first|rfl|(cases l<;>simp[gZ] at h)
structure EY (P:Program) (t:κ) (x:ξ):Prop where
 eq:∀y,lL P t y=true->∀w,(Op.equal t x y).run P w=.ok (vF x y) w
 kO:∀em w,(Instr.checkKey em 10000 t x).run P w=.ok () w
 same:Instr.sameBits 10000 x x=true
 now:∀y,lL P t y=true->∀kd,Instr.sameNow kd x y=none\/Instr.sameNow kd x y=some (vF x y)
 flat:∀ι v',bg P ι x v'->v'=x
theorem AW {l:eh}{v:ξ}(h:gZ l v=true)(n:Nat):Instr.sameBits n v v=true:=by
 cases l<;>cases v<;>simp_all[gZ,Instr.sameBits,beq_toListBytes]
theorem PJ {l:eh}{v u:ξ}(h:gZ l v=true)(hu:gZ l u=true)(kd:TypeDesc):Instr.sameNow kd v u=none\/Instr.sameNow kd v u=some (zO v u):=by
 cases l with
 |int k=>
  obtain⟨a,rfl⟩:=rR h;obtain⟨b,rfl⟩:=rR hu;cases kd<;>first|exact .inl rfl|skip
  right;simp only[Instr.sameNow,aav,zO,HJ,acw];rfl
 |bool=>
  obtain⟨a,rfl⟩:=qd h;obtain⟨b,rfl⟩:=qd hu;cases kd<;>first|exact .inl rfl|exact .inr rfl
 |str=>
  obtain⟨a,rfl⟩:=rS h;obtain⟨b,rfl⟩:=rS hu;cases kd<;>first|exact .inl rfl|skip
  right;simp only[Instr.sameNow];rw[beq_toListBytes,<-mZ];rfl
 |_=>cases v<;>simp[gZ] at h
theorem oc:∀{ls:List eh} {vs:δ},eJ ls vs=true->∀v∈vs,cV v=true/\∃l,gZ l v=true
 |[],[],_=>by simp
 |[],_::_,h=>by cases h
 |_::_,[],h=>by cases h
 |l::ls,v::vs,h=>by
  simp only[eJ,aaf] at h;intro u hu;rcases List.mem_cons.1 hu with rfl|hu
  .exact⟨AU h.1,l,h.1⟩
  .exact oc h.2 u hu
theorem HN {ls:List eh}{cs:ν}(h:eJ ls cs.toList=true)(n:Nat):Instr.sameBits (n+1) (.agg cs) (.agg cs)=true:=by
 simp only[Instr.sameBits,aaf,beq_self_eq_true,aaY,aaR];intro p hp;have hz:∀(l:δ) (p:ξ×ξ),p∈l.zip l->p.1=p.2/\p.1∈l:=by
  intro l
  induction l with
  |nil=>intro p hp;simp at hp
  |cons a l ih=>
   intro p hp;rw[List.zip_cons_cons] at hp
   grind
 obtain⟨e,hm⟩:=hz _ p hp;obtain⟨_,l,hl⟩:=oc h _ hm
 grind [AW]
theorem EZ {t:κ}{x:ξ}(hx:lL P t x=true):EY P t x:=by
 have hx0:=hx;unfold lL at hx;split at hx
 .rename_i K hK;have hy0:∀y,lL P t y=true->MF K y=true:=λy hy=>by unfold lL at hy;rw[hK] at hy;exact hy
  unfold Hj at hK;split at hK
  ·-- struct
   rename_i fs hu;split at hK
   .rename_i ls hst hfs;cases hK;obtain⟨cs,rfl,hc⟩:=ub hx;refine⟨λy hy w=>?_,λem w=>?_,HN hc _,λy hy kd=>?_,λι v' hr=>hr.Lf λv hv=>(oc hc v hv).1⟩
    .obtain⟨ds,rfl,hd⟩:=ub (hy0 y hy);have hff:P.fieldsOf t=fs:=(by unfold Program.fieldsOf;rw[hu]);have:=run_equalIn_struct (P:=P) w 9999 t cs ds (by rw[hff];exact hu) hst;unfold Op.equal Op.maxDepth;rw[this,hff];have:=HK (xs:=cs) (ys:=ds) fs.toList 0 ls 9998 w hfs hc hd;simpa[vF] using this
    .show (Instr.checkKey em (9999+1) t (.agg cs)).run P w=_;rw[Instr.checkKey];simp only[Sem.run_bind,aL hu,Result.andThen_ok];rw[<-Array.forIn_toList];have:=AV (P:=P) (xs:=cs) em 9998 fs.toList 0 ls hfs hc w;simp at this;simp[this]
    .obtain⟨ds,rfl,hd⟩:=ub (hy0 y hy);cases kd<;>exact .inl rfl
   .cases hK
  ·-- array
   rename_i n e hu;split at hK
   .rename_i l hl;cases hK;obtain⟨cs,rfl,hc⟩:=ub hx;obtain⟨hs1,_⟩:=n8 hl;obtain⟨i,hi,hsz⟩:∃i,P.info? e=some i/\i.size=1:=by
     grind [bP,Option.some.inj]
    have hco:P.cellsOf e=1:=(by simp[Program.cellsOf,hi,hsz]);obtain⟨hn,hall⟩:=tG hc;refine⟨λy hy w=>?_,λem w=>?_,HN hc _,λy hy kd=>?_,λι v' hr=>hr.Lf λv hv=>(oc hc v hv).1⟩
    .obtain⟨ds,rfl,hd⟩:=ub (hy0 y hy);obtain⟨hn2,hall2⟩:=tG hd;unfold Op.equal Op.maxDepth;rw[run_equalIn_array w 9999 cs ds hu hi,hco,acV]
     grind [Eg,vF]
    .show (Instr.checkKey em (9999+1) t (.agg cs)).run P w=_;rw[Instr.checkKey];simp only[Sem.run_bind,aL hu,Result.andThen_ok];simp only[Std.Legacy.Range.forIn_eq_forIn_range',Std.Legacy.Range.size,acC,Nat.add_one_sub_one,Nat.div_one];have key:∀(k o:Nat),o+k<=cs.size->(forIn (List.range' o k) PUnit.unit (λi (_:PUnit)=>(do
       Instr.checkKey em 9999 e (<-part e cs (i*(<-sizeOf e)))
       pure (ForInStep.yield PUnit.unit):Sem (ForInStep PUnit)))).run P w=.ok PUnit.unit w:=by
      intro k
      induction k with
      |zero=>intro o _;simp
      |succ k ih=>
       intro o ho;have lt:o<cs.toList.length:=(by simp;omega);have p1:cs[o*1]?=some cs.toList[o]:=(by grind);rw[abU,List.forIn_cons];simp only[Sem.run_bind,iv hs1,Result.andThen_ok,lU hl p1,tF hl (hall _ (abn lt)),Sem.run_pure];exact ih (o+1) (by omega)
     simp_all
    .obtain⟨ds,rfl,hd⟩:=ub (hy0 y hy);cases kd<;>exact .inl rfl
   .cases hK
  .split at hK
   .rename_i l hl;cases hK;have hx:=Cj hx;refine⟨λy hy w=>?_,λem w=>?_,AW hx _,λy hy kd=>?_,λι v' hr=>hr.EW (AU hx)⟩
    .rw[Li hx];exact ye hl hx (Cj (hy0 y hy)) 9999 w
    .exact tF hl hx em 9999 w
    grind [Li,PJ,Cj]
   .cases hK
 .cases hx
def mq (k:ξ):List MapEntry->Nat->Option (Nat×ξ)
 |[],_=>none
 |e::r,i=>match vF k e.key with
  |true=>some (i,e.val)
  |false=>mq k r (i+1)
theorem findNow_spec {t:κ}{k:ξ}(hk:EY P t k)(kd:TypeDesc):∀(es:List MapEntry) (i:Nat),(∀e∈es,lL P t e.key=true) ->
  Instr.findNow kd k es i=none\/Instr.findNow kd k es i=some (mq k es i)
 |[],i,_=>.inr rfl
 |e::es,i,h=>by
  simp only[Instr.findNow,mq];rcases hk.now e.key (h e (aaz ..)) kd with h1|h1
  .rw[h1];exact .inl rfl
  .rw[h1];cases vF k e.key
   .exact findNow_spec hk kd es (i+1) λe he=>h e (aan _ he)
   .exact .inr rfl
theorem wh {t:κ}{k:ξ}(hk:EY P t k)(w:World):∀(es:List MapEntry) (i:Nat),(∀e∈es,lL P t e.key=true) ->
  (Instr.findAsking t k es i).run P w=.ok (mq k es i) w
 |[],i,_=>by simp[Instr.findAsking,mq]
 |e::es,i,h=>by
  have ih:=wh hk w es (i+1) λe he=>h e (aan _ he);simp only[Instr.findAsking,mq,Sem.run_bind,hk.eq e.key (h e (aaz ..)) w,Result.andThen_ok];cases vF k e.key
  .simpa using ih
  .simp
theorem qe {t:κ}{k:ξ}{d:TypeDesc}(hd:P.underlying t=some d)(hk:EY P t k)(w:World){es:List MapEntry}(h:∀e∈es,lL P t e.key=true) :
  (Instr.findKey t k es).run P w=.ok (mq k es 0) w:=by
 simp only[Instr.findKey,Sem.run_bind,aL hd,Result.andThen_ok];rcases findNow_spec hk d es 0 h with h1|h1
 .rw[h1];exact wh hk w es 0 h
 .rw[h1];simp
theorem qa.keys {t:κ}:∀{es:List lJ} {es':List MapEntry},qa P ι t es es'->∀e∈es',lL P t e.key=true
 |[],[],_=>by simp
 |[],_::_,h=>h.elim
 |_::_,[],h=>h.elim
 |e::r,e'::r',h=>λx hx=>by
  rcases List.mem_cons.1 hx with rfl|hx
  .rw[h.1];exact h.2.1
  .exact qa.keys h.2.2.2.2 x hx
theorem qa.length {t:κ}:∀{es:List lJ} {es':List MapEntry},qa P ι t es es'->es.length=es'.length
 |[],[],_=>rfl
 |[],_::_,h=>h.elim
 |_::_,[],h=>h.elim
 |e::r,e'::r',h=>by simp[qa.length h.2.2.2.2]
theorem qa.find {t:κ}(k:ξ):∀{es:List lJ} {es':List MapEntry} (i:Nat),qa P ι t es es' ->
  (eK k es=none/\mq k es' i=none)\/∃e v' j,eK k es=some e/\mq k es' i=some (i+j,v')/\bg P ι e.val v'/\e.key=k/\∃e',es'[j]?=some e'/\e'.key=k/\e'.born=e.born/\e'.val=v'
 |[],[],i,_=>.inl ⟨rfl,rfl⟩
 |[],_::_,_,h=>h.elim
 |_::_,[],_,h=>h.elim
 |e::r,e'::r',i,h=>by
  simp only[eK,mq,h.1];cases hv:vF k e.key
  .rcases qa.find k (i+1) h.2.2.2.2 with⟨h1,h2⟩|⟨v,v',j,h1,h2,h3,h3b,e2,h4,h5⟩
   .exact .inl ⟨h1,h2⟩
   .exact .inr ⟨v,v',j+1,h1,by rw[show i+(j+1)=i+1+j by omega];exact h2,h3,h3b,e2,by simpa using h4,h5⟩
  .exact .inr ⟨_,_,0,rfl,rfl,h.2.2.1,(JD hv).symm,e',rfl,by rw[h.1,JD hv],h.2.2.2.1,rfl⟩
theorem qa.E3 {t:κ}{k v v':ξ}{c:Nat}(hk:lL P t k=true)(hv:bg P ι v v'):∀{es:List lJ} {es':List MapEntry} (i:Nat),qa P ι t es es'->mq k es' i=none ->
  qa P ι t (nq k v c es) (es'++[{ key:=k,val:=v',born:=c }])
 |[],[],i,_,_=>⟨rfl,hk,hv,rfl,trivial⟩
 |[],_::_,_,h,_=>h.elim
 |_::_,[],_,h,_=>h.elim
 |e::r,e'::r',i,h,hf=>by
  simp only[mq,h.1] at hf;simp only[nq];cases hq:vF k e.key
  .rw[hq] at hf;exact⟨h.1,h.2.1,h.2.2.1,h.2.2.2.1,qa.E3 hk hv (i+1) h.2.2.2.2 hf⟩
  .rw[hq] at hf;cases hf
theorem yX {k:ξ}:∀(l:List MapEntry) (a b:Nat) (u:ξ),mq k l a=some (b,u)->a<=b
 |[],a,b,u,h=>by cases h
 |x::l,a,b,u,h=>by
  simp only[mq] at h;split at h
  .cases h;omega
  .have:=yX l _ _ _ h;omega
theorem qa.Lj {t:κ}{k v v' u:ξ}{c:Nat}(hk:lL P t k=true)(hv:bg P ι v v'):∀{es:List lJ} {es':List MapEntry} (i j:Nat),qa P ι t es es'->mq k es' i=some (i+j,u) ->
  qa P ι t (nq k v c es) (es'.modify j λe=>{ e with key:=k,val:=v' })
 |[],[],i,j,_,hf=>by cases hf
 |[],_::_,_,_,h,_=>h.elim
 |_::_,[],_,_,h,_=>h.elim
 |e::r,e'::r',i,j,h,hf=>by
  simp only[mq,h.1] at hf;simp only[nq];cases hq:vF k e.key
  .rw[hq] at hf;simp only at hf;have:=yX _ _ _ _ hf;obtain⟨j,rfl⟩:∃q,j=q+1:=⟨j-1,by omega⟩;have:=qa.Lj (u:=u) (c:=c) hk hv (i+1) j h.2.2.2.2 (by rw[hf];congr 2;omega);simpa using⟨h.1,h.2.1,h.2.2.1,h.2.2.2.1,this⟩
  .rw[hq] at hf;simp only[IN,abm] at hf;obtain rfl:j=0:=by omega
   rw[acQ];exact⟨rfl,hk,hv,h.2.2.2.1,h.2.2.2.2⟩
theorem qa.HO {t:κ}{k u:ξ}:∀{es:List lJ} {es':List MapEntry} (i j:Nat),qa P ι t es es'->mq k es' i=some (i+j,u) ->
  es'.modify j (λe=>{ e with key:=k })=es'
 |[],[],i,j,_,hf=>by cases hf
 |[],_::_,_,_,h,_=>h.elim
 |_::_,[],_,_,h,_=>h.elim
 |e::r,e'::r',i,j,h,hf=>by
  simp only[mq,h.1] at hf;cases hq:vF k e.key
  .rw[hq] at hf;simp only at hf;have:=yX _ _ _ _ hf;obtain⟨j,rfl⟩:∃q,j=q+1:=⟨j-1,by omega⟩;have:=qa.HO (u:=u) (i+1) j h.2.2.2.2 (by rw[hf];congr 2;omega);simpa using this
  .rw[hq] at hf;simp only[IN,abm] at hf;obtain rfl:j=0:=by omega
   rw[acQ,JD hq,<-h.1]
theorem qa.bt {t:κ}{v v':ξ}{b:Nat}(hv:bg P ι v v'):∀{es es2:List lJ} {es':List MapEntry},qa P ι t es es'->yT b v es=some es2 ->
  ∃j,es'.findIdx? (λe=>(e.born:Int)==(b:Int))=some j/\qa P ι t es2 (es'.modify j λe=>{ e with val:=v' })
 |[],_,[],_,hf=>by cases hf
 |[],_,_::_,h,_=>h.elim
 |_::_,_,[],h,_=>h.elim
 |e::r,es2,e'::r',h,hf=>by
  simp only[yT] at hf;have hb:((e'.born:Int)==(b:Int))=Nat.beq e.born b:=by
   rw[h.2.2.2.1,acH,beq_iff_eq];constructor
   .intro e1;have:e.born=b:=(by omega);rw[this];exact abe b
   .intro e1;rw[IS e1]
  rw[List.findIdx?_cons,hb];cases hq:Nat.beq e.born b
  .rw[hq] at hf;simp only at hf;split at hf
   .rename_i l hl;cases hf;obtain⟨j,h1,h2⟩:=qa.bt hv h.2.2.2.2 hl;refine⟨j+1,by simp[h1],?_⟩;simpa using⟨h.1,h.2.1,h.2.2.1,h.2.2.2.1,h2⟩
   .cases hf
  .rw[hq] at hf;cases hf;exact⟨0,by simp,by simpa using⟨h.1,h.2.1,hv,h.2.2.2.1,h.2.2.2.2⟩⟩
theorem qa.HP {t:κ}{k:ξ}:∀{es:List lJ} {es':List MapEntry} (i:Nat),qa P ι t es es'->mq k es' i=none->MD k es=es
 |[],[],i,_,_=>rfl
 |[],_::_,_,h,_=>h.elim
 |_::_,[],_,h,_=>h.elim
 |e::r,e'::r',i,h,hf=>by
  simp only[mq,h.1] at hf;simp only[MD];cases hq:vF k e.key
  .rw[hq] at hf;simp only;rw[qa.HP (i+1) h.2.2.2.2 hf]
  .rw[hq] at hf;cases hf
theorem qa.HQ {t:κ}{k u:ξ}:∀{es:List lJ} {es':List MapEntry} (i j:Nat),qa P ι t es es'->mq k es' i=some (i+j,u)->qa P ι t (MD k es) (es'.eraseIdx j)
 |[],[],i,j,_,hf=>by cases hf
 |[],_::_,_,_,h,_=>h.elim
 |_::_,[],_,_,h,_=>h.elim
 |e::r,e'::r',i,j,h,hf=>by
  simp only[mq,h.1] at hf;simp only[MD];cases hq:vF k e.key
  .rw[hq] at hf;simp only at hf;have:=yX _ _ _ _ hf;obtain⟨j,rfl⟩:∃q,j=q+1:=⟨j-1,by omega⟩;have:=qa.HQ (u:=u) (i+1) j h.2.2.2.2 (by rw[hf];congr 2;omega);simpa using⟨h.1,h.2.1,h.2.2.1,h.2.2.2.1,this⟩
  .rw[hq] at hf;simp only[IN,abm] at hf;obtain rfl:j=0:=by omega
   simpa using h.2.2.2.2
theorem Rel.iP (R:Rel P W0 ι h w){m r:Nat}{t:κ}{es:List lJ}{es0 es':Array MapEntry}{c0 c:Nat}(hm:ι.mp m=some r)(hb:w.heap[r]?=some (.map es0 c0))
  (hes:qa P ι t es es'.toList):Rel P W0 ι (h.iP m ⟨t,c,es⟩) { w with heap:=w.heap.setIfInBounds r (.map es' c) }:=by
 have hr:=(Array.getElem?_eq_some_iff.1 hb).1;have hget:∀i:Nat,(w.heap.setIfInBounds r (.map es' c))[i]?=if i=r then some (.map es' c) else w.heap[i]?:=λi=>by
  grind
 have hcells:∀(i:Nat) cc e fz,w.heap[i]?=some (.cells cc e fz)->(w.heap.setIfInBounds r (.map es' c))[i]?=some (.cells cc e fz):=λi cc e fz hi=>by
  grind
 have hcell:∀a v,w.cell? a=some v->World.cell? { w with heap:=w.heap.setIfInBounds r (.map es' c) } a=some v:=by
  grind [World.cell?]
 have hmg:∀j,(h.iP m ⟨t,c,es⟩).fj j=if j=m then some ⟨t,c,es⟩ else h.fj j:=λj=>aQ _ _ _ _;refine⟨λi o hi=>?_,R.we,R.nx,λb l hl=>?_,λb c1 g base e hb1=>?_,R.bG,R.jY,R.os,R.Cd,⟨λm' hm'=>?_,λm' r' hm'=>?_,R.mp.inj,λm' x1 hm'=>?_⟩⟩
 .simp only[hget];rw[By (λx=>by subst x;rw[(R.mp.loc m i hm).1] at hi;cases hi)];exact R.j7 i o hi
 .obtain⟨cc,fz,q1,q2⟩:=R.loc b l hl;exact⟨cc,fz,hcells _ _ _ _ q1,q2⟩
 .obtain⟨l,q1,q2,q3,q4,q5⟩:=R.live b c1 g base e hb1
  grind
 .have q:=R.mp.we m' hm'
  grind
 .refine⟨(R.mp.loc m' r' hm').1,?_⟩;simp only[hget];by_cases e:r'=r
  .exact⟨es',c,by rw[BY e]⟩
  .rw[By e];exact (R.mp.loc m' r' hm').2
 .rw[hmg] at hm';by_cases e:m'=m
  .grind
  .rw[By e] at hm';obtain⟨r',es2,q1,q2,q3⟩:=R.mp.live m' x1 hm';have hne:r'≠r:=λx=>by subst x;exact e (R.mp.inj m' m _ q1 hm)
   grind
theorem HR (R:Rel P W0 ι h w){kt:κ}{m:Nat}(hx:vx kt h=some (m,h1)) :
  ∃ι',ι.le ι'/\ι'.mp m=some w.heap.size/\Rel P W0 ι' h1 { w with heap:=w.heap.push (.map #[] 0) }:=by
 unfold vx at hx;cases hx;have hd:=R.mp.we h.next R.unused
 have hle:ι.le ⟨ι.f,λj=>if j=h.next then some w.heap.size else ι.mp j⟩:=by
  refine⟨λ_ _ x=>x,λm r hm=>?_⟩
  grind
 have hused:∀b,({ h.iP h.next ⟨kt,0,[]⟩ with next:=h.next+1,used:=λj=>cond (Nat.beq j h.next) true (h.used j) }:af).used b=if b=h.next then true else h.used b:=λb=>aQ _ _ _ _
 have hus:∀b,({ h.iP h.next ⟨kt,0,[]⟩ with next:=h.next+1,used:=λj=>cond (Nat.beq j h.next) true (h.used j) }:af).used b=false->b≠h.next/\h.used b=false:=λb hb=>by
  grind
 refine⟨_,hle,by simp,?_⟩;have hnone:W0 w.heap.size=none:=by
  cases hq:W0 w.heap.size with
  |none=>rfl
  |some o=>have:=(Array.getElem?_eq_some_iff.1 (R.j7 _ o hq)).1;omega
 have hlt:∀(i:Nat) o,w.heap[i]?=some o->(w.heap.push (.map #[] 0))[i]?=some o:=λi o hi=>by
  grind
 have hmg:∀j,(h.iP h.next ⟨kt,0,[]⟩).fj j=if j=h.next then some ⟨kt,0,[]⟩ else h.fj j:=λj=>aQ _ _ _ _
 refine⟨λi o hi=>hlt _ _ (R.j7 i o hi),λb hb=>R.we b (hus b hb).2,λb hb=>?_,λb l hl=>?_,λb c1 g base e hb1=>?_,R.bG,λb c1 g base e hb1 hg=>?_,R.os,R.Cd,⟨λm' hm'=>?_,λm' r' hm'=>?_,λm1 m2 r h1 h2=>?_,λm' x1 hm'=>?_⟩⟩
 .have hb:h.next+1<=b:=hb
  refine (hused b).trans ?_;rw[By (by omega)];exact R.nx b (by omega)
 .obtain⟨cc,fz,q1,q2⟩:=R.loc b l hl;exact⟨cc,fz,hlt _ _ q1,q2⟩
 .obtain⟨l,q1,q2,q3,q4,q5⟩:=R.live b c1 g base e hb1;exact⟨l,q1,q2,q3,q4,λi v hv=>let ⟨v',a,b,d⟩:=q5 i v hv;⟨v',zR _ _ a,b,d.mono hle⟩⟩
 .obtain⟨q1,q2⟩:=R.jY b c1 g base e hb1 hg;refine⟨q1,(hused _).trans ?_⟩;split
  .rfl
  .exact q2
 .obtain⟨hne,hu⟩:=hus m' hm';refine⟨?_,?_⟩
  .refine (hmg m').trans ?_;rw[By hne];exact (R.mp.we m' hu).1
  .simp only[By hne];exact (R.mp.we m' hu).2
 .by_cases e:m'=h.next
  .grind
  .simp only[By e] at hm';obtain⟨q1,es,c,q2⟩:=R.mp.loc m' r' hm';exact⟨q1,es,c,hlt _ _ q2⟩
 .have j7:∀m r,ι.mp m=some r->r<w.heap.size:=λm r hm=>by
   obtain⟨_,es,c,q⟩:=R.mp.loc m r hm;exact (Array.getElem?_eq_some_iff.1 q).1
  by_cases e1:m1=h.next<;>by_cases e2:m2=h.next
  .rw[e1,e2]
  .grind
  .grind
  .simp only[By e1] at h1;simp only[By e2] at h2;exact R.mp.inj _ _ _ h1 h2
 .replace hm':=(hmg m').symm.trans hm'
  by_cases e:m'=h.next
  .rw[BY e] at hm';cases hm';exact⟨w.heap.size,#[],by simp[e],by simp,trivial⟩
  .rw[By e] at hm';obtain⟨r',es2,q1,q2,q3⟩:=R.mp.live m' x1 hm';exact⟨r',es2,by simp[e,q1],hlt _ _ q2,q3.mono hle⟩
theorem DK (R:Rel P W0 ι h w){k:Nat}{kt:κ}{m:Nat}(hx:nV k kt h=some (m,h1)) :
  ∃ι',ι.le ι'/\ι'.mp m=some w.heap.size/\Rel P W0 ι' h1 { w with heap:=w.heap.push (.map #[] 0) }:=by
 unfold nV at hx;split at hx
 case isFalse=>cases hx
 rename_i hk;simp only[IN,abm] at hx;obtain⟨hkm,rfl⟩:=hx;subst hkm;have hd:=R.mp.we k hk.1;have hle:ι.le ⟨ι.f,λj=>if j=k then some w.heap.size else ι.mp j⟩:=by
  refine⟨λ_ _ x=>x,λm' r hm=>?_⟩
  grind
 have hused:∀b,(h.sD k kt).used b=if b=k then true else h.used b:=λb=>aQ _ _ _ _;have hus:∀b,(h.sD k kt).used b=false->b≠k/\h.used b=false:=λb hb=>by
  grind
 refine⟨_,hle,by simp,?_⟩;have hnone:W0 w.heap.size=none:=by
  cases hq:W0 w.heap.size with
  |none=>rfl
  |some o=>have:=(Array.getElem?_eq_some_iff.1 (R.j7 _ o hq)).1;omega
 have hlt:∀(i:Nat) o,w.heap[i]?=some o->(w.heap.push (.map #[] 0))[i]?=some o:=λi o hi=>by
  grind
 have hmg:∀j,(h.iP k ⟨kt,0,[]⟩).fj j=if j=k then some ⟨kt,0,[]⟩ else h.fj j:=λj=>aQ _ _ _ _;refine⟨λi o hi=>hlt _ _ (R.j7 i o hi),λb hb=>R.we b (hus b hb).2,λb hb=>?_,λb l hl=>?_,λb c1 g base e hb1=>?_,R.bG,λb c1 g base e hb1 hg=>?_,R.os,R.Cd,⟨λm' hm'=>?_,λm' r' hm'=>?_,λm1 m2 r h1 h2=>?_,λm' x1 hm'=>?_⟩⟩
 .have hb:h.next<=b:=hb
  refine (hused b).trans ?_;rw[By (by have:=hk.2.1;omega)];exact R.nx b hb
 .obtain⟨cc,fz,q1,q2⟩:=R.loc b l hl;exact⟨cc,fz,hlt _ _ q1,q2⟩
 .obtain⟨l,q1,q2,q3,q4,q5⟩:=R.live b c1 g base e hb1;exact⟨l,q1,q2,q3,q4,λi v hv=>let ⟨v',a,b,d⟩:=q5 i v hv;⟨v',zR _ _ a,b,d.mono hle⟩⟩
 .obtain⟨q1,q2⟩:=R.jY b c1 g base e hb1 hg;refine⟨q1,(hused _).trans ?_⟩;split
  .rfl
  .exact q2
 .obtain⟨hne,hu⟩:=hus m' hm';refine⟨?_,?_⟩
  .refine (hmg m').trans ?_;rw[By hne];exact (R.mp.we m' hu).1
  .simp only[By hne];exact (R.mp.we m' hu).2
 .by_cases e:m'=k
  .grind
  .simp only[By e] at hm';obtain⟨q1,es,c,q2⟩:=R.mp.loc m' r' hm';exact⟨q1,es,c,hlt _ _ q2⟩
 .have j7:∀k r,ι.mp k=some r->r<w.heap.size:=λk r hm=>by
   obtain⟨_,es,c,q⟩:=R.mp.loc k r hm;exact (Array.getElem?_eq_some_iff.1 q).1
  by_cases e1:m1=k<;>by_cases e2:m2=k
  .rw[e1,e2]
  .grind
  .grind
  .simp only[By e1] at h1;simp only[By e2] at h2;exact R.mp.inj _ _ _ h1 h2
 .replace hm':=(hmg m').symm.trans hm'
  by_cases e:m'=k
  .rw[BY e] at hm';cases hm';exact⟨w.heap.size,#[],by simp[e],by simp,trivial⟩
  .rw[By e] at hm';obtain⟨r',es2,q1,q2,q3⟩:=R.mp.live m' x1 hm';exact⟨r',es2,by simp[e,q1],hlt _ _ q2,q3.mono hle⟩
theorem bg.E4 {m:μ}{v':ξ}(hr:bg P ι (.map m) v'):(m=none/\v'=.map none)\/∃a r,m=some a/\v'=.map (some r)/\ι.mp a=some r:=by
 cases hr with
 |flat _ hf=>cases m with
  |none=>exact .inl ⟨rfl,rfl⟩
  |some a=>simp[cV] at hf
 |map a r hr=>exact .inr ⟨a,r,rfl,rfl,hr⟩
theorem uR {kt:κ}{m:Nat}{c:Nat}{es:List lJ}(hx:h.p8 kt m=some (c,es)):h.fj m=some ⟨kt,c,es⟩:=by
 unfold af.p8 at hx;split at hx
 .rename_i x hg;split at hx
  .rename_i hb;cases hx;rw[hg,<-IS hb]
  .cases hx
 .cases hx
theorem E5 {t:Ty}{v:ξ}{x:t.den}(hx:DC t v=some x):v=zL t x:=by
 cases t with
 |one l=>exact qb hx
 |agg ls=>
  cases v<;>simp only[DC] at hx<;>try cases hx
  rename_i cs;rw[zL,<-zS hx]
theorem w6 {kt:κ}{k:ξ}(h:lL P kt k=true):∃d,P.underlying kt=some d:=by
 unfold lL at h;split at h
 .rename_i K hK;unfold Hj at hK;split at hK
  .exact⟨_,by assumption⟩
  .exact⟨_,by assumption⟩
  .split at hK
   .rename_i l hl;obtain⟨_,⟨k,h1,_⟩|⟨h1,_⟩|⟨h1,_⟩⟩:=n8 hl<;>exact⟨_,h1⟩
   .cases hK
 .cases h
theorem E6 (R:Rel P W0 ι h w){t k e:κ}(ht:P.underlying t=some (.map k e)){m:μ}{x' kv kv':ξ}(hm:bg P ι (.map m) x')(hk:lL P k kv=true)(hkr:bg P ι kv kv')
  {T:Ty} {zv:ξ} (hz:zeroOf P e=some zv) {z:T.den} (huz:DC T zv=some z) {ok:Bool} {r:Bool×T.den} (hx:rN k T z m kv h=some (r,h1)) :
  eB P W0 ι w (Instr.lookup t x' kv' ok) (match ok with|true=>.tuple #[zL T r.2,.bool r.1] | false=>zL T r.2) h1:=by
 have K:=EZ hk;obtain rfl:=(K.flat _ _ hkr).symm;obtain⟨d,hd⟩:=w6 hk;obtain⟨_,hz1,_⟩:=fO hz;have hzz:=E5 huz;have hzf:bg P ι zv zv:=by
  obtain⟨q,_⟩:=fO hz;cases zv with
  |agg cs=>
   refine .agg _ _ rfl ?_;intro i u u' a b;rw[a] at b;cases b;exact .flat _ (List.all_eq_true.1 q u (by simpa[Value.cells] using abx a))
  |_=>exact .flat _ (by simpa[Value.cells] using q)
 have fin:∀(b:Bool) (x:T.den) (v':ξ),bg P ι (zL T x) v' ->
   bg P ι (match ok with|true=>.tuple #[zL T x,.bool b] | false=>zL T x) (if ok then .tuple #[v',.bool b] else v'):=by
  intro b x v' hv;cases ok
  .exact hv
  .refine .tuple _ _ rfl λi u u' a c=>?_
   match i with
   |0=>simp at a c;subst a;subst c;exact hv
   |1=>simp at a c;subst a;subst c;exact .ofBool
   |i+2=>simp at a
 unfold rN at hx;split at hx
 .cases hx;rcases hm.E4 with⟨_,rfl⟩|⟨a,r,h2,_⟩
  .have hfk:(Instr.findKey k kv #[].toList).run P w=.ok none w:=qe (es:=[]) hd K w (by simp);refine .ret (v':=if ok then .tuple #[zv,.bool false] else zv) ?_ (fin false z zv (by rw[<-hzz];exact hzf)) R;simp at hfk;cases ok<;>simp[Instr.lookup,aL ht,K.kO,hfk,hz1]
  .cases h2
 .rename_i m0;rcases hm.E4 with⟨h2,_⟩|⟨a,r0,h2,rfl,hr0⟩
  .cases h2
  .cases h2;split at hx
   .rename_i c es hes;obtain⟨r1,es',q1,q2,q3⟩:=R.mp.live _ _ (uR hes);rw[hr0] at q1;cases q1;have hfk:=qe (es:=es'.toList) hd K w q3.keys;have hgo:=MapKept.run_getObj_map (P:=P) q2;split at hx
    .rename_i v hv;split at hx
     .rename_i x hux;cases hx;unfold sM at hv;rcases qa.find kv 0 q3 with⟨h3,_⟩|⟨v1,v',j,h3,h4,h5,_⟩
      .rw[h3] at hv;cases hv
      .rw[h3] at hv;cases hv;rw[h4] at hfk;refine .ret (v':=if ok then .tuple #[v',.bool true] else v') ?_ (fin true x v' (by rw[<-E5 hux];exact h5)) R;cases ok<;>simp[Instr.lookup,aL ht,K.kO,hgo,hfk]
     .cases hx
    .rename_i hv;cases hx;unfold sM at hv;rcases qa.find kv 0 q3 with⟨h3,h4⟩|⟨v1,v',j,h3,h4,h5,_⟩
     .rw[h4] at hfk;refine .ret (v':=if ok then .tuple #[zv,.bool false] else zv) ?_ (fin false z zv (by rw[<-hzz];exact hzf)) R;cases ok<;>simp[Instr.lookup,aL ht,K.kO,hgo,hfk,hz1]
     .rw[h3] at hv;cases hv
   .cases hx
theorem vz (R:Rel P W0 ι h w){t k e:κ}(ht:P.underlying t=some (.map k e)){m:μ}{x' kv kv' v v':ξ}(hm:bg P ι (.map m) x')(hk:lL P k kv=true)(hkr:bg P ι kv kv')(hv:bg P ι v v')
  {u:Unit} (hx:B4 k m kv v h=some (u,h1)):∃w',(Instr.mapUpdate t x' kv' v').run P w=.ok () w'/\Rel P W0 ι h1 w':=by
 have K:=EZ hk;obtain rfl:=(K.flat _ _ hkr).symm;obtain⟨d,hd⟩:=w6 hk;unfold B4 at hx;split at hx
 .cases hx
 .rename_i m0;rcases hm.E4 with⟨h2,_⟩|⟨a,r0,h2,rfl,hr0⟩
  .cases h2
  .cases h2;split at hx
   .rename_i c es hes;cases hx;obtain⟨r1,es',q1,q2,q3⟩:=R.mp.live _ _ (uR hes);rw[hr0] at q1;cases q1;have hfk:=qe (es:=es'.toList) hd K w q3.keys;have hgo:=MapKept.run_getObj_map (P:=P) q2;have hst:(Instr.keyThatStays kv kv).run P w=.ok kv w:=(by simp[Instr.keyThatStays,K.same]);rcases qa.find kv 0 q3 with⟨h3,h4⟩|⟨v1,v2,j,h3,h4,h5,h5b,e',h6,h7,h8,h9⟩
    .rw[h4] at hfk;have hes2:qa P ι k (nq kv v c es) (es'.push { key:=kv,val:=v',born:=c }).toList:=(by simpa using qa.E3 hk hv 0 q3 h4);simp only at h3;simp only[h3];refine⟨{ w with heap:=w.heap.setIfInBounds r0 (.map (es'.push { key:=kv,val:=v',born:=c }) (c+1)) },?_,R.iP hr0 q2 hes2⟩
     .simp[Instr.mapUpdate,aL ht,hgo,K.kO,hfk,MapKept.run_setObj_map _ q2]
    .rw[h4] at hfk;have h6':es'[j]?=some e':=(by simpa using h6);have hes2:qa P ι k (nq kv v c es) (es'.modify j λe=>{ e with key:=kv,val:=v' }).toList:=by
      have:=qa.Lj (c:=c) hk hv 0 j q3 h4;simpa using this
     simp only at h3;simp only[h3];refine⟨{ w with heap:=w.heap.setIfInBounds r0 (.map (es'.modify j λe=>{ e with key:=kv,val:=v' }) c) },?_,R.iP hr0 q2 hes2⟩
     .simp[Instr.mapUpdate,aL ht,hgo,K.kO,hfk,MapKept.run_setObj_map _ q2,h6',h7,hst]
   .cases hx
theorem Cm (R:Rel P W0 ι h w){t k e:κ}(ht:P.underlying t=some (.map k e)){m:μ}{x' kv kv':ξ}(hm:bg P ι (.map m) x')(hk:lL P k kv=true)(hkr:bg P ι kv kv')
  {T:Ty} {zv:ξ} (hz:zeroOf P e=some zv) {z:T.den} (huz:DC T zv=some z) {r:T.den×Nat} (hx:lT k T z m kv h=some (r,h1)) :
  eB P W0 ι w (Instr.mapEntry t x' kv') (.tuple #[zL T r.1,.int .i64 r.2]) h1:=by
 have K:=EZ hk;obtain rfl:=(K.flat _ _ hkr).symm;obtain⟨d,hd⟩:=w6 hk;obtain⟨_,hz1,_⟩:=fO hz;have hzz:=E5 huz;have hzf:bg P ι zv zv:=by
  obtain⟨q,_⟩:=fO hz;cases zv with
  |agg cs=>
   refine .agg _ _ rfl ?_;intro i u u' a b;rw[a] at b;cases b;exact .flat _ (List.all_eq_true.1 q u (by simpa[Value.cells] using abx a))
  |_=>exact .flat _ (by simpa[Value.cells] using q)
 have fin:∀(b:Nat) (x:T.den) (v':ξ),bg P ι (zL T x) v'->bg P ι (.tuple #[zL T x,.int .i64 b]) (.tuple #[v',.int .i64 b]):=by
  intro b x v' hv;refine .tuple _ _ rfl λi u u' a c=>?_
  match i with
  |0=>simp at a c;subst a;subst c;exact hv
  |1=>simp at a c;subst a;subst c;exact .ofInt
  |i+2=>simp at a
 unfold lT at hx;split at hx
 .cases hx
 .rename_i m0;rcases hm.E4 with⟨h2,_⟩|⟨a,r0,h2,rfl,hr0⟩
  .cases h2
  .cases h2;split at hx
   .rename_i c es hes;obtain⟨r1,es',q1,q2,q3⟩:=R.mp.live _ _ (uR hes);rw[hr0] at q1;cases q1;have hfk:=qe (es:=es'.toList) hd K w q3.keys;have hgo:=MapKept.run_getObj_map (P:=P) q2;have hst:(Instr.keyThatStays kv kv).run P w=.ok kv w:=(by simp[Instr.keyThatStays,K.same]);split at hx
    .rename_i e0 hv;split at hx
     .rename_i x hux;cases hx;rcases qa.find kv 0 q3 with⟨h3,h4⟩|⟨v1,v2,j,h3,h4,h5,h5b,e',h6,h7,h8,h9⟩
      .rw[h3] at hv;cases hv
      .rw[h3] at hv;cases hv;rw[h4] at hfk;have h6':es'[j]?=some e':=(by simpa using h6);have hsame:es'.modify j (λe=>{ e with key:=kv })=es':=by
        apply aaS;simpa using qa.HO 0 j q3 h4
       refine⟨.tuple #[v2,.int .i64 e0.born],{ w with heap:=w.heap.setIfInBounds r0 (.map es' c) },ι,?_,fin _ _ _ (by rw[<-E5 hux];exact h5),?_,.refl _⟩
       .simp[Instr.mapEntry,aL ht,hgo,K.kO,hfk,MapKept.run_setObj_map _ q2,h6',h7,h8,hst,hsame,goInt]
       .have hid:w.heap.setIfInBounds r0 (.map es' c)=w.heap:=by
         apply acp;intro i;rw[abT];by_cases hi:r0=i
         .grind
         .rw[By hi]
        rw[hid];exact R
     .cases hx
    .rename_i hv;cases hx;rcases qa.find kv 0 q3 with⟨h3,h4⟩|⟨v1,v2,j,h3,h4,h5,h5b,e',h6,h7,h8,h9⟩
     .rw[h4] at hfk;refine⟨.tuple #[zv,.int .i64 c],{ w with heap:=w.heap.setIfInBounds r0 (.map (es'.push { key:=kv,val:=zv,born:=c }) (c+1)) },ι,?_,fin c z zv (by rw[<-hzz];exact hzf),R.iP hr0 q2 ?_,.refl _⟩
      .simp[Instr.mapEntry,aL ht,hgo,K.kO,hfk,MapKept.run_setObj_map _ q2,hz1,goInt]
      .rw[<-hzz];simpa using qa.E3 hk hzf 0 q3 h4
     .rw[h3] at hv;cases hv
   .cases hx
theorem zV (R:Rel P W0 ι h w){t:κ}{m:μ}{x' v v':ξ}{kk:IntKind}{st:Int}(hm:bg P ι (.map m) x')(hv:bg P ι v v')
  {u:Unit} (hx:nW m st v h=some (u,h1)):∃w',(Instr.entryStore t x' (.int kk st) v').run P w=.ok () w'/\Rel P W0 ι h1 w':=by
 unfold nW at hx;split at hx
 .cases hx
 .rename_i m0;rcases hm.E4 with⟨h2,_⟩|⟨a,r0,h2,rfl,hr0⟩
  .cases h2
  .cases h2;split at hx
   .rename_i x hes;split at hx
    .rename_i es hd hp;cases hx;obtain⟨r1,es',q1,q2,q3⟩:=R.mp.live _ _ hes;rw[hr0] at q1;cases q1;have hgo:=MapKept.run_getObj_map (P:=P) q2;obtain⟨j,h3,h4⟩:=qa.bt hv q3 hp;have hst:((st.toNat:Nat):Int)=st:=Int.toNat_of_nonneg (abB hd);rw[hst] at h3;have h3':es'.findIdx? (λe=>(e.born:Int)==st)=some j:=by
      rw[<-abE (xs:=es'),List.findIdx?_toArray];exact h3
     refine⟨{ w with heap:=w.heap.setIfInBounds r0 (.map (es'.modify j λe=>{ e with val:=v' }) x.clock) },?_,R.iP hr0 q2 ?_⟩
     .simp[Instr.entryStore,hgo,asInt,asIntOf,h3',MapKept.run_setObj_map _ q2]
     .simpa using h4
    .cases hx
   .cases hx
theorem E7 (R:Rel P W0 ι h w){t k e ty:κ}{ts:Array κ}(hts:ts[0]?=some t)(ht:P.underlying t=some (.map k e)){m:μ}{x' kv kv':ξ}(hm:bg P ι (.map m) x')(hk:lL P k kv=true)(hkr:bg P ι kv kv')
  {u:Unit} (hx:Ph k m kv h=some (u,h1)):eB P W0 ι w (Builtin.delete_ ts ty #[x',kv']) (.tuple #[]) h1:=by
 have K:=EZ hk;obtain rfl:=(K.flat _ _ hkr).symm;obtain⟨d,hd⟩:=w6 hk;unfold Ph at hx;split at hx
 .cases hx;rcases hm.E4 with⟨_,rfl⟩|⟨a,r,h2,_⟩
  .refine .ret (v':=.tuple #[]) ?_ (.tuple _ _ rfl (by simp)) R;simp[Builtin.delete_,hts,aL ht,K.kO]
  .cases h2
 .rename_i m0;rcases hm.E4 with⟨h2,_⟩|⟨a,r0,h2,rfl,hr0⟩
  .cases h2
  .cases h2;split at hx
   .rename_i c es hes;cases hx;obtain⟨r1,es',q1,q2,q3⟩:=R.mp.live _ _ (uR hes);rw[hr0] at q1;cases q1;have hfk:=qe (es:=es'.toList) hd K w q3.keys;have hgo:=MapKept.run_getObj_map (P:=P) q2;rcases qa.find kv 0 q3 with⟨h3,h4⟩|⟨v1,v2,j,h3,h4,h5,h5b,e',h6,h7,h8,h9⟩
    .rw[h4] at hfk;refine⟨.tuple #[],{ w with heap:=w.heap.setIfInBounds r0 (.map es' c) },ι,?_,.tuple _ _ rfl (by simp),R.iP hr0 q2 ?_,.refl _⟩
     .simp[Builtin.delete_,hts,aL ht,hgo,K.kO,hfk,MapKept.run_setObj_map _ q2]
     .rw[qa.HP 0 q3 h4];exact q3
    .rw[h4] at hfk;refine⟨.tuple #[],{ w with heap:=w.heap.setIfInBounds r0 (.map (es'.eraseIdxIfInBounds j) c) },ι,?_,.tuple _ _ rfl (by simp),R.iP hr0 q2 ?_,.refl _⟩
     .simp[Builtin.delete_,hts,aL ht,hgo,K.kO,hfk,MapKept.run_setObj_map _ q2]
     .have:=qa.HQ 0 j q3 h4
      simp_all
   .cases hx
theorem HS (R:Rel P W0 ι h w){t k e ty:κ}{ts:Array κ}(hts:ts[0]?=some t)(ht:P.underlying t=some (.map k e)){m:μ}{x':ξ}(hm:bg P ι (.map m) x')
  {n:Nat} (hx:AN m h=some (n,h1)):eB P W0 ι w (Builtin.len_ ts ty #[x']) (.int .i64 n) h1:=by
 unfold AN at hx;split at hx
 .cases hx;rcases hm.E4 with⟨_,rfl⟩|⟨a,r,h2,_⟩
  .exact .ret (v':=.int .i64 0) (by simp[Builtin.len_,hts,aL ht,goInt]) .ofInt R
  .cases h2
 .rename_i m0;rcases hm.E4 with⟨h2,_⟩|⟨a,r0,h2,rfl,hr0⟩
  .cases h2
  .cases h2;split at hx
   .rename_i x hes;cases hx;obtain⟨r1,es',q1,q2,q3⟩:=R.mp.live _ _ hes;rw[hr0] at q1;cases q1;have hl:=q3.length;refine .ret (v':=.int .i64 x.es.length) ?_ .ofInt R;have hgo:=MapKept.run_getObj_map (P:=P) q2;simp at hl;simp[Builtin.len_,hts,aL ht,goInt,hgo,hl]
   .cases hx
theorem HU (R:Rel P W0 ι h w){t e ty:κ}{ts:Array κ}(hts:ts[0]?=some t)(ht:P.underlying t=some (.slice e)){z:Nat}(hz:bP P e=some z){a:θ}{n c:Nat}{a2:θ}{n2 c2:Nat}{x' y':ξ}
  (hd:bg P ι (.slice a n c) x') (hs:bg P ι (.slice a2 n2 c2) y') {k:Nat} (hx:xL ⟨a,n,c⟩ ⟨a2,n2,c2⟩ z h=some (k,h1)) :
  eB P W0 ι w (Builtin.copy_ ts ty #[x',y']) (.int .i64 k) h1:=by
 have src:∀cs,bj h a2 (Nat.min n2 n*z)=some cs->∃cs',bN P ι cs cs'/\(Builtin.firstCells z (Nat.min n2 n) y').run P w=.ok cs'.toArray w/\(∀v∈cs,fi v=true):=by
  intro cs hc;cases hs with
  |flat _ hf=>
   cases a2 with
   |some a=>simp[cV] at hf
   |none=>
    simp[bj] at hc;obtain⟨h0,rfl⟩:=hc;exact⟨[],.nil,by simp[Builtin.firstCells],by simp⟩
  |slice b b' n c c' l e1 e2 e3 e4 e5 e6 e7 e8=>
   obtain⟨cs',q1,q2,q3,q4,q5⟩:=pW R ⟨e1,e2,l,e3,e4,e5⟩ hc
   grind [Builtin.firstCells]
  |jl b b' c hce=>
   have:cs=[]:=by
    simp[bj] at hc
    grind
   subst this;exact⟨[],.nil,by simp[Builtin.firstCells,loadCells,loadCellsFrom],by simp⟩
 obtain⟨y2,c3,hy2,_⟩:=hs.VC;obtain⟨x2,c4,hx2,hxn⟩:=hd.VC;have hlen:(Builtin.lenOf y').run P w=.ok n2 w:=by rw[hy2];simp[Builtin.lenOf]
 unfold xL at hx;split at hx
 .rename_i hc;cases hx;obtain⟨cs',q1,q2,_⟩:=src _ hc;have:cs'=[]:=by have:=q1.1;simp at this;exact aap this.symm
  subst this;refine .ret (v':=.int .i64 (Nat.min n2 n)) ?_ .ofInt R;subst hx2;cases x2<;>simp[Builtin.copy_,hts,aL ht,hlen,iv hz,q2,storeCells,goInt]
 .rename_i cs hne hc;split at hx
  .cases hx
  .rename_i b hb;split at hx
   .rename_i u h2 hst;cases hx;obtain⟨cs',q1,q2,_⟩:=src _ hc;have hb:a=some b:=hb;subst hb;cases hd with
    |flat _ hf=>simp[cV] at hf
    |slice _ b' n c c' l e1 e2 e3 e4 e5 e6 e7 e8=>
     obtain⟨w',hr,R'⟩:=zT R ⟨e1,e2,l,e3,e4,e5⟩ q1 hst;refine⟨.int .i64 (Nat.min n2 n),w',ι,?_,.ofInt,R',.refl _⟩;simp[Builtin.copy_,hts,aL ht,hlen,iv hz,q2,goInt,hr]
    |jl _ b' c hce=>
     exfalso;have:cs=[]:=by
      have:Nat.min n2 0*z=0:=(by simp);rw[this] at hc;unfold bj at hc
      grind
     exact hne this
   .cases hx
 .cases hx
end Go.Ago
