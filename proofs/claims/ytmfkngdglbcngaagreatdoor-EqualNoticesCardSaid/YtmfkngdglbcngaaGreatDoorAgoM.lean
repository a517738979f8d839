
import Derived.Test.YtmfkngdglbcngaaGreatDoorAgoD
import Derived.ChangeKeysEq
set_option linter.all false
namespace Go.Ago
open Go
variable {P:Program}{W0:Fz}{ι ι':gD}{h h' h1:af}{w w':World}
theorem Dn {l:eN}{v:ξ}(h:iL l v=true):dz v=true:=by
 cases l<;>cases v<;>simp_all[iL,dz]
theorem qd {t:κ}{l:eN}(h:tP P t=some l):bR P t=some 1 /\
  ((∃k,P.underlying t=some (.int k)/\l=.int k)\/(P.underlying t=some .bool/\l=.bool)\/(P.underlying t=some .string/\l=.str)):=by
 unfold tP at h
 grind
theorem uy {k:IntKind}{v:ξ}(h:iL (.int k) v=true):∃n,v=.int k n:=by
 cases v<;>simp only[iL] at h<;>try cases h
 rename_i k' n;exact⟨n,by rw[Ii h]⟩
theorem sN {v:ξ}(h:iL .bool v=true):∃n,v=.bool n:=by
 cases v<;>simp only[iL] at h<;>try cases h
 exact⟨_,rfl⟩
theorem uz {v:ξ}(h:iL .str v=true):∃n,v=.string n:=by
 cases v<;>simp only[iL] at h<;>try cases h
 exact⟨_,rfl⟩
theorem Lo (k:IntKind):PI k k=true:=by cases k<;>rfl
theorem Ao {t:κ}{l:eN}(h:tP P t=some l){v u:ξ}(hv:iL l v=true)(hu:iL l u=true)(d:Nat)(w:World) :
  (Op.equalIn (d+1) t v u).run P w=.ok (Bc v u) w:=by
 obtain⟨_,⟨k,h1,rfl⟩|⟨h1,rfl⟩|⟨h1,rfl⟩⟩:=qd h
 .obtain⟨a,rfl⟩:=uy hv;obtain⟨b,rfl⟩:=uy hu;rw[run_equalIn_int w d t _ _ _ _ h1];simp only[Bc,Lo,ahL];rfl
 .obtain⟨a,rfl⟩:=sN hv;obtain⟨b,rfl⟩:=sN hu;exact run_equalIn_bool w d t _ _ h1
 .obtain⟨a,rfl⟩:=uz hv;obtain⟨b,rfl⟩:=uz hu;rw[run_equalIn_string w d t _ _ h1];rfl
theorem vB {t:κ}{l:eN}(h:tP P t=some l){v:ξ}(hv:iL l v=true)(em:Bool)(n:Nat)(w:World) :
  (Instr.checkKey em (n+1) t v).run P w=.ok () w:=by
 obtain⟨_,⟨k,h1,rfl⟩|⟨h1,rfl⟩|⟨h1,rfl⟩⟩:=qd h
 .obtain⟨a,rfl⟩:=uy hv;simp[Instr.checkKey,aK h1]
 .obtain⟨a,rfl⟩:=sN hv;simp[Instr.checkKey,aK h1]
 .obtain⟨a,rfl⟩:=uz hv;simp[Instr.checkKey,aK h1]
theorem ou {t:κ}{l:eN}(h:tP P t=some l){xs:ν}{o:Nat}{v:ξ}(hx:xs[o]?=some v)(w:World):(part t xs o).run P w=.ok v w:=by
 obtain⟨_,⟨k,h1,rfl⟩|⟨h1,rfl⟩|⟨h1,rfl⟩⟩:=qd h<;>exact Fc h1 rfl hx w
theorem PQ {v u:ξ}(h:Bc v u=true):v=u:=by
 cases v<;>cases u<;>simp only[Bc,aau,OF] at h<;>try cases h
 .rename_i a b;simp at h;rw[h]
 .rename_i h1 h2;rw[Ii h1,h2]
 .rename_i a b;unfold mX at h;have h:=beq_iff_eq.1 h;rw[ByteArray.toList_eq,ByteArray.toList_eq] at h;cases a;cases b;simp at h;rw[h]
theorem PR:∀{xs ys:δ},yf xs ys=true->xs=ys
 |[],[],_=>rfl
 |[],_::_,h=>by cases h
 |_::_,[],h=>by cases h
 |x::xs,y::ys,h=>by
  simp only[yf,aau] at h;rw[PQ h.1,PR h.2]
theorem Nu {x y:ξ}(h:wG x y=true):x=y:=by
 unfold wG at h
 grind [PR,Array.toList_inj,PQ]
theorem Lq {xs ys:ν}:∀(fs:List Field) (o:Nat) (ls:List eN) (d:Nat) (w:World),E5 P fs o=some ls->fK ls (xs.toList.drop o)=true->fK ls (ys.toList.drop o)=true ->
  (Op.eqFields (d+1) xs ys fs).run P w=.ok (yf (xs.toList.drop o) (ys.toList.drop o)) w
 |[],o,ls,d,w,h,hx,hy=>by
  simp only[E5,abG] at h;subst h;cases h1:xs.toList.drop o with
  |cons=>rw[h1] at hx;simp[fK] at hx
  |nil=>
   cases h2:ys.toList.drop o with
   |cons=>rw[h2] at hy;simp[fK] at hy
   |nil=>simp[Op.eqFields,yf]
 |f::fs,o,ls,d,w,h,hx,hy=>by
  simp only[E5] at h;split at h
  .rename_i l ls' hn ho hl hr;cases h;have ho:=aab ho;have hn : f.name ≠ "_" := by intro e; rw[e] at hn; exact absurd hn (by decide)
   cases h1:xs.toList.drop o with
   |nil=>rw[h1] at hx;simp[fK] at hx
   |cons x xs'=>
    cases h2:ys.toList.drop o with
    |nil=>rw[h2] at hy;simp[fK] at hy
    |cons y ys'=>
     rw[h1] at hx;rw[h2] at hy;simp only[fK,aau] at hx hy;have hx0:xs[o]?=some x:=by
      rw[<-aeo,<-agF o,<-aev,h1];rfl
     have hy0:ys[o]?=some y:=by
      rw[<-aeo,<-agF o,<-aev,h2];rfl
     have hxt:xs.toList.drop (o+1)=xs':=(by rw[<-ag3,h1];rfl);have hyt:ys.toList.drop (o+1)=ys':=(by rw[<-ag3,h2];rfl);have ih:=Lq (xs:=xs) (ys:=ys) fs (o+1) ls' d w hr (by rw[hxt];exact hx.2) (by rw[hyt];exact hy.2);rw[hxt,hyt] at ih;unfold Op.eqFields;rw[AT hn,ho];simp only[Sem.run_bind,ou hl hx0,ou hl hy0,Result.andThen_ok,Ao hl hx.1 hy.1 d w,yf];cases Bc x y
     .simp
     .simp[ih]
  .cases h
theorem Dp {xs:ν}(em:Bool)(n:Nat):∀(fs:List Field) (o:Nat) (ls:List eN),E5 P fs o=some ls->fK ls (xs.toList.drop o)=true ->
  ∀w,(forIn fs PUnit.unit (λf (_:PUnit)=>(do
    if f.name ≠ "_" then Instr.checkKey em (n+1) f.type (<-part f.type xs f.offset)
    pure (ForInStep.yield PUnit.unit):Sem (ForInStep PUnit)))).run P w=.ok PUnit.unit w
 |[],o,ls,h,hx,w=>by simp
 |f::fs,o,ls,h,hx,w=>by
  simp only[E5] at h;split at h
  .rename_i l ls' hn ho hl hr;cases h;have ho:=aab ho;have hn : f.name ≠ "_" := by intro e; rw[e] at hn; exact absurd hn (by decide)
   cases h1:xs.toList.drop o with
   |nil=>rw[h1] at hx;simp[fK] at hx
   |cons x xs'=>
    rw[h1] at hx;simp only[fK,aau] at hx;have hx0:xs[o]?=some x:=by
     rw[<-aeo,<-agF o,<-aev,h1];rfl
    have hxt:xs.toList.drop (o+1)=xs':=(by rw[<-ag3,h1];rfl);have ih:=Dp (xs:=xs) em n fs (o+1) ls' hr (by rw[hxt];exact hx.2) w;rw[List.forIn_cons];simp only[hn,ne_eq,not_false_eq_true,agN,Sem.run_bind,ho,ou hl hx0,Result.andThen_ok,vB hl hx.1,Sem.run_pure];simpa using ih
  .cases h
theorem vC {l:eN}:∀{n:Nat} {xs:δ},fK (List.replicate n l) xs=true->xs.length=n/\∀v∈xs,iL l v=true
 |0,[],_=>⟨rfl,by simp⟩
 |0,_::_,h=>by cases h
 |n+1,[],h=>by cases h
 |n+1,x::xs,h=>by
  rw[agc] at h;simp only[fK,aau] at h;obtain⟨h1,h2⟩:=vC h.2
  grind
theorem Hz {e:κ}{l:eN}(hl:tP P e=some l){xs ys:ν}(hx:∀v∈xs.toList,iL l v=true)(hy:∀v∈ys.toList,iL l v=true)(d:Nat)(w:World) :
  ∀(k o:Nat),xs.size=o+k->ys.size=o+k->(Op.eqItems (d+1) e 1 xs ys (List.range' o k)).run P w=.ok (yf (xs.toList.drop o) (ys.toList.drop o)) w
 |0,o,h1,h2=>by
  have e1:xs.toList.drop o=[]:=abV (by simp;omega);have e2:ys.toList.drop o=[]:=abV (by simp;omega);simp[Op.eqItems,e1,e2,yf]
 |k+1,o,h1,h2=>by
  have ih:=Hz hl hx hy d w k (o+1) (by omega) (by omega);have l1:o<xs.toList.length:=by simp;omega
  have l2:o<ys.toList.length:=by simp;omega
  rw[afc l1,afc l2,ahM,Op.eqItems];have p1:xs[o*1]?=some xs.toList[o]:=by grind
  have p2:ys[o*1]?=some ys.toList[o]:=by grind
  simp only[Sem.run_bind,ou hl p1,ou hl p2,Result.andThen_ok,Ao hl (hx _ (agM l1)) (hy _ (agM l2)) d w,yf];cases Bc xs.toList[o] ys.toList[o]
  .simp
  grind
theorem Fh {l:eN}{v:ξ}(h:Rv (.one l) v=true):iL l v=true:=by
 unfold Rv at h;exact h
theorem vX {ls:List eN}{v:ξ}(h:Rv (.agg ls) v=true):∃cs,v=.agg cs/\fK ls cs.toList=true:=by
 cases v<;>simp only[Rv] at h<;>try cases h
 exact⟨_,rfl,h⟩
theorem PS {l:eN}{v u:ξ}(h:iL l v=true):wG v u=Bc v u:=by
 cases v<;>first|rfl|(cases l<;>simp[iL] at h)
structure Im (P:Program) (t:κ) (x:ξ):Prop where
 eq:∀y,nW P t y=true->∀w,(Op.equal t x y).run P w=.ok (wG x y) w
 mY:∀em w,(Instr.checkKey em 10000 t x).run P w=.ok () w
 same:Instr.sameBits 10000 x x=true
 now:∀y,nW P t y=true->∀kd,Instr.sameNow kd x y=none\/Instr.sameNow kd x y=some (wG x y)
 flat:∀ι v',aR P ι x v'->v'=x
theorem Dq {l:eN}{v:ξ}(h:iL l v=true)(n:Nat):Instr.sameBits n v v=true:=by
 cases l<;>cases v<;>simp_all[iL,Instr.sameBits,beq_toListBytes]
theorem Uu {l:eN}{v u:ξ}(h:iL l v=true)(hu:iL l u=true)(kd:TypeDesc):Instr.sameNow kd v u=none\/Instr.sameNow kd v u=some (Bc v u):=by
 cases l with
 |int k=>
  obtain⟨a,rfl⟩:=uy h;obtain⟨b,rfl⟩:=uy hu;cases kd<;>first|exact .inl rfl|skip
  right;simp only[Instr.sameNow,agN,Bc,Lo,ahL];rfl
 |bool=>
  obtain⟨a,rfl⟩:=sN h;obtain⟨b,rfl⟩:=sN hu;cases kd<;>first|exact .inl rfl|exact .inr rfl
 |str=>
  obtain⟨a,rfl⟩:=uz h;obtain⟨b,rfl⟩:=uz hu;cases kd<;>first|exact .inl rfl|skip
  right;simp only[Instr.sameNow];rw[beq_toListBytes];rfl
 |_=>cases v<;>simp[iL] at h
theorem qe:∀{ls:List eN} {vs:δ},fK ls vs=true->∀v∈vs,dz v=true/\∃l,iL l v=true
 |[],[],_=>by simp
 |[],_::_,h=>by cases h
 |_::_,[],h=>by cases h
 |l::ls,v::vs,h=>by
  simp only[fK,aau] at h;intro u hu;rcases List.mem_cons.1 hu with rfl|hu
  .exact⟨Dn h.1,l,h.1⟩
  .exact qe h.2 u hu
theorem Ls {ls:List eN}{cs:ν}(h:fK ls cs.toList=true)(n:Nat):Instr.sameBits (n+1) (.agg cs) (.agg cs)=true:=by
 simp only[Instr.sameBits,aau,beq_self_eq_true,ag8,aeI];intro p hp;have hz:∀(l:δ) (p:ξ×ξ),p∈l.zip l->p.1=p.2/\p.1∈l:=by
  intro l
  induction l with
  |nil=>intro p hp;simp at hp
  |cons a l ih=>
   intro p hp;rw[List.zip_cons_cons] at hp
   grind
 obtain⟨e,hm⟩:=hz _ p hp;obtain⟨_,l,hl⟩:=qe h _ hm
 grind [Dq]
theorem Io {t:κ}{x:ξ}(hx:nW P t x=true):Im P t x:=by
 have hx0:=hx;unfold nW at hx;split at hx
 .rename_i K hK;have hy0:∀y,nW P t y=true->Rv K y=true:=λy hy=>by unfold nW at hy;rw[hK] at hy;exact hy
  unfold KP at hK;split at hK
  ·-- struct
   rename_i fs hu;split at hK
   .rename_i ls hst hfs;cases hK;obtain⟨cs,rfl,hc⟩:=vX hx;refine⟨λy hy w=>?_,λem w=>?_,Ls hc _,λy hy kd=>?_,λι v' hr=>hr.PO λv hv=>(qe hc v hv).1⟩
    .obtain⟨ds,rfl,hd⟩:=vX (hy0 y hy);have hff:P.fieldsOf t=fs:=(by unfold Program.fieldsOf;rw[hu]);have:=run_equalIn_struct (P:=P) w 9999 t cs ds (by rw[hff];exact hu) hst;unfold Op.equal Op.maxDepth;rw[this,hff];have:=Lq (xs:=cs) (ys:=ds) fs.toList 0 ls 9998 w hfs hc hd;simpa[wG] using this
    .show (Instr.checkKey em (9999+1) t (.agg cs)).run P w=_;rw[Instr.checkKey];simp only[Sem.run_bind,aK hu,Result.andThen_ok];rw[<-Array.forIn_toList];have:=Dp (P:=P) (xs:=cs) em 9998 fs.toList 0 ls hfs hc w;simp at this;simp[this]
    .obtain⟨ds,rfl,hd⟩:=vX (hy0 y hy);cases kd<;>exact .inl rfl
   .cases hK
  ·-- array
   rename_i n e hu;split at hK
   .rename_i l hl;cases hK;obtain⟨cs,rfl,hc⟩:=vX hx;obtain⟨hs1,_⟩:=qd hl;obtain⟨i,hi,hsz⟩:∃i,P.info? e=some i/\i.size=1:=by
     grind [bR,Option.some.inj]
    have hco:P.cellsOf e=1:=(by simp[Program.cellsOf,hi,hsz]);obtain⟨hn,hall⟩:=vC hc;refine⟨λy hy w=>?_,λem w=>?_,Ls hc _,λy hy kd=>?_,λι v' hr=>hr.PO λv hv=>(qe hc v hv).1⟩
    .obtain⟨ds,rfl,hd⟩:=vX (hy0 y hy);obtain⟨hn2,hall2⟩:=vC hd;unfold Op.equal Op.maxDepth;rw[run_equalIn_array w 9999 cs ds hu hi,hco,List.range_eq_range']
     grind [Hz,wG]
    .show (Instr.checkKey em (9999+1) t (.agg cs)).run P w=_;rw[Instr.checkKey];simp only[Sem.run_bind,aK hu,Result.andThen_ok];simp only[Std.Legacy.Range.forIn_eq_forIn_range',Std.Legacy.Range.size,Nat.sub_zero,Nat.add_one_sub_one,Nat.div_one];have key:∀(k o:Nat),o+k<=cs.size->(forIn (List.range' o k) PUnit.unit (λi (_:PUnit)=>(do
       Instr.checkKey em 9999 e (<-part e cs (i*(<-sizeOf e)))
       pure (ForInStep.yield PUnit.unit):Sem (ForInStep PUnit)))).run P w=.ok PUnit.unit w:=by
      intro k
      induction k with
      |zero=>intro o _;simp
      |succ k ih=>
       intro o ho;have lt:o<cs.toList.length:=(by simp;omega);have p1:cs[o*1]?=some cs.toList[o]:=(by grind);rw[ahM,List.forIn_cons];simp only[Sem.run_bind,jg hs1,Result.andThen_ok,ou hl p1,vB hl (hall _ (agM lt)),Sem.run_pure];exact ih (o+1) (by omega)
     simp_all
    .obtain⟨ds,rfl,hd⟩:=vX (hy0 y hy);cases kd<;>exact .inl rfl
   .cases hK
  .split at hK
   .rename_i l hl;cases hK;have hx:=Fh hx;refine⟨λy hy w=>?_,λem w=>?_,Dq hx _,λy hy kd=>?_,λι v' hr=>hr.Ik (Dn hx)⟩
    .rw[PS hx];exact Ao hl hx (Fh (hy0 y hy)) 9999 w
    .exact vB hl hx em 9999 w
    grind [PS,Uu,Fh]
   .cases hK
 .cases hx
def oR (k:ξ):List MapEntry->Nat->Option (Nat×ξ)
 |[],_=>none
 |e::r,i=>match wG k e.key with
  |true=>some (i,e.val)
  |false=>oR k r (i+1)
theorem findNow_spec {t:κ}{k:ξ}(hk:Im P t k)(kd:TypeDesc):∀(es:List MapEntry) (i:Nat),(∀e∈es,nW P t e.key=true) ->
  Instr.findNow kd k es i=none\/Instr.findNow kd k es i=some (oR k es i)
 |[],i,_=>.inr rfl
 |e::es,i,h=>by
  simp only[Instr.findNow,oR];rcases hk.now e.key (h e (IS ..)) kd with h1|h1
  .rw[h1];exact .inl rfl
  .rw[h1];cases wG k e.key
   .exact findNow_spec hk kd es (i+1) λe he=>h e (BY _ he)
   .exact .inr rfl
theorem ym {t:κ}{k:ξ}(hk:Im P t k)(w:World):∀(es:List MapEntry) (i:Nat),(∀e∈es,nW P t e.key=true) ->
  (Instr.findAsking t k es i).run P w=.ok (oR k es i) w
 |[],i,_=>by simp[Instr.findAsking,oR]
 |e::es,i,h=>by
  have ih:=ym hk w es (i+1) λe he=>h e (BY _ he);simp only[Instr.findAsking,oR,Sem.run_bind,hk.eq e.key (h e (IS ..)) w,Result.andThen_ok];cases wG k e.key
  .simpa using ih
  .simp
theorem sO {t:κ}{k:ξ}{d:TypeDesc}(hd:P.underlying t=some d)(hk:Im P t k)(w:World){es:List MapEntry}(h:∀e∈es,nW P t e.key=true) :
  (Instr.findKey t k es).run P w=.ok (oR k es 0) w:=by
 simp only[Instr.findKey,Sem.run_bind,aK hd,Result.andThen_ok];rcases findNow_spec hk d es 0 h with h1|h1
 .rw[h1];exact ym hk w es 0 h
 .rw[h1];simp
theorem sK.keys {t:κ}:∀{es:List nU} {es':List MapEntry},sK P ι t es es'->∀e∈es',nW P t e.key=true
 |[],[],_=>by simp
 |[],_::_,h=>h.elim
 |_::_,[],h=>h.elim
 |e::r,e'::r',h=>λx hx=>by
  rcases List.mem_cons.1 hx with rfl|hx
  .rw[h.1];exact h.2.1
  .exact sK.keys h.2.2.2.2 x hx
theorem sK.length {t:κ}:∀{es:List nU} {es':List MapEntry},sK P ι t es es'->es.length=es'.length
 |[],[],_=>rfl
 |[],_::_,h=>h.elim
 |_::_,[],h=>h.elim
 |e::r,e'::r',h=>by simp[sK.length h.2.2.2.2]
theorem sK.find {t:κ}(k:ξ):∀{es:List nU} {es':List MapEntry} (i:Nat),sK P ι t es es' ->
  (gw k es=none/\oR k es' i=none)\/∃e v' j,gw k es=some e/\oR k es' i=some (i+j,v')/\aR P ι e.val v'/\e.key=k/\∃e',es'[j]?=some e'/\e'.key=k/\e'.born=e.born/\e'.val=v'
 |[],[],i,_=>.inl ⟨rfl,rfl⟩
 |[],_::_,_,h=>h.elim
 |_::_,[],_,h=>h.elim
 |e::r,e'::r',i,h=>by
  simp only[gw,oR,h.1];cases hv:wG k e.key
  .rcases sK.find k (i+1) h.2.2.2.2 with⟨h1,h2⟩|⟨v,v',j,h1,h2,h3,h3b,e2,h4,h5⟩
   .exact .inl ⟨h1,h2⟩
   .exact .inr ⟨v,v',j+1,h1,by rw[show i+(j+1)=i+1+j by omega];exact h2,h3,h3b,e2,by simpa using h4,h5⟩
  .exact .inr ⟨_,_,0,rfl,rfl,h.2.2.1,(Nu hv).symm,e',rfl,by rw[h.1,Nu hv],h.2.2.2.1,rfl⟩
theorem sK.Ip {t:κ}{k v v':ξ}{c:Nat}(hk:nW P t k=true)(hv:aR P ι v v'):∀{es:List nU} {es':List MapEntry} (i:Nat),sK P ι t es es'->oR k es' i=none ->
  sK P ι t (pY k v c es) (es'++[{ key:=k,val:=v',born:=c }])
 |[],[],i,_,_=>⟨rfl,hk,hv,rfl,trivial⟩
 |[],_::_,_,h,_=>h.elim
 |_::_,[],_,h,_=>h.elim
 |e::r,e'::r',i,h,hf=>by
  simp only[oR,h.1] at hf;simp only[pY];cases hq:wG k e.key
  .rw[hq] at hf;exact⟨h.1,h.2.1,h.2.2.1,h.2.2.2.1,sK.Ip hk hv (i+1) h.2.2.2.2 hf⟩
  .rw[hq] at hf;cases hf
theorem Bh {k:ξ}:∀(l:List MapEntry) (a b:Nat) (u:ξ),oR k l a=some (b,u)->a<=b
 |[],a,b,u,h=>by cases h
 |x::l,a,b,u,h=>by
  simp only[oR] at h;split at h
  .cases h;omega
  .have:=Bh l _ _ _ h;omega
theorem sK.PU {t:κ}{k v v' u:ξ}{c:Nat}(hk:nW P t k=true)(hv:aR P ι v v'):∀{es:List nU} {es':List MapEntry} (i j:Nat),sK P ι t es es'->oR k es' i=some (i+j,u) ->
  sK P ι t (pY k v c es) (es'.modify j λe=>{ e with key:=k,val:=v' })
 |[],[],i,j,_,hf=>by cases hf
 |[],_::_,_,_,h,_=>h.elim
 |_::_,[],_,_,h,_=>h.elim
 |e::r,e'::r',i,j,h,hf=>by
  simp only[oR,h.1] at hf;simp only[pY];cases hq:wG k e.key
  .rw[hq] at hf;simp only at hf;have:=Bh _ _ _ _ hf;obtain⟨j,rfl⟩:∃q,j=q+1:=⟨j-1,by omega⟩;have:=sK.PU (u:=u) (c:=c) hk hv (i+1) j h.2.2.2.2 (by rw[hf];congr 2;omega);simpa using⟨h.1,h.2.1,h.2.2.1,h.2.2.2.1,this⟩
  .rw[hq] at hf;simp only[abG,afr] at hf;obtain rfl:j=0:=by omega
   rw[aip];exact⟨rfl,hk,hv,h.2.2.2.1,h.2.2.2.2⟩
theorem sK.Lt {t:κ}{k u:ξ}:∀{es:List nU} {es':List MapEntry} (i j:Nat),sK P ι t es es'->oR k es' i=some (i+j,u) ->
  es'.modify j (λe=>{ e with key:=k })=es'
 |[],[],i,j,_,hf=>by cases hf
 |[],_::_,_,_,h,_=>h.elim
 |_::_,[],_,_,h,_=>h.elim
 |e::r,e'::r',i,j,h,hf=>by
  simp only[oR,h.1] at hf;cases hq:wG k e.key
  .rw[hq] at hf;simp only at hf;have:=Bh _ _ _ _ hf;obtain⟨j,rfl⟩:∃q,j=q+1:=⟨j-1,by omega⟩;have:=sK.Lt (u:=u) (i+1) j h.2.2.2.2 (by rw[hf];congr 2;omega);simpa using this
  .rw[hq] at hf;simp only[abG,afr] at hf;obtain rfl:j=0:=by omega
   rw[aip,Nu hq,<-h.1]
theorem sK.dA {t:κ}{v v':ξ}{b:Nat}(hv:aR P ι v v'):∀{es es2:List nU} {es':List MapEntry},sK P ι t es es'->Hs b v es=some es2 ->
  ∃j,es'.findIdx? (λe=>(e.born:Int)==(b:Int))=some j/\sK P ι t es2 (es'.modify j λe=>{ e with val:=v' })
 |[],_,[],_,hf=>by cases hf
 |[],_,_::_,h,_=>h.elim
 |_::_,_,[],h,_=>h.elim
 |e::r,es2,e'::r',h,hf=>by
  simp only[Hs] at hf;have hb:((e'.born:Int)==(b:Int))=Nat.beq e.born b:=by
   rw[h.2.2.2.1,Bool.eq_iff_iff,beq_iff_eq];constructor
   .intro e1;have:e.born=b:=(by omega);rw[this];exact afo b
   .intro e1;rw[aab e1]
  rw[List.findIdx?_cons,hb];cases hq:Nat.beq e.born b
  .rw[hq] at hf;simp only at hf;split at hf
   .rename_i l hl;cases hf;obtain⟨j,h1,h2⟩:=sK.dA hv h.2.2.2.2 hl;refine⟨j+1,by simp[h1],?_⟩;simpa using⟨h.1,h.2.1,h.2.2.1,h.2.2.2.1,h2⟩
   .cases hf
  .rw[hq] at hf;cases hf;exact⟨0,by simp,by simpa using⟨h.1,h.2.1,hv,h.2.2.2.1,h.2.2.2.2⟩⟩
theorem sK.Lu {t:κ}{k:ξ}:∀{es:List nU} {es':List MapEntry} (i:Nat),sK P ι t es es'->oR k es' i=none->Ru k es=es
 |[],[],i,_,_=>rfl
 |[],_::_,_,h,_=>h.elim
 |_::_,[],_,h,_=>h.elim
 |e::r,e'::r',i,h,hf=>by
  simp only[oR,h.1] at hf;simp only[Ru];cases hq:wG k e.key
  .rw[hq] at hf;simp only;rw[sK.Lu (i+1) h.2.2.2.2 hf]
  .rw[hq] at hf;cases hf
theorem sK.Lw {t:κ}{k u:ξ}:∀{es:List nU} {es':List MapEntry} (i j:Nat),sK P ι t es es'->oR k es' i=some (i+j,u)->sK P ι t (Ru k es) (es'.eraseIdx j)
 |[],[],i,j,_,hf=>by cases hf
 |[],_::_,_,_,h,_=>h.elim
 |_::_,[],_,_,h,_=>h.elim
 |e::r,e'::r',i,j,h,hf=>by
  simp only[oR,h.1] at hf;simp only[Ru];cases hq:wG k e.key
  .rw[hq] at hf;simp only at hf;have:=Bh _ _ _ _ hf;obtain⟨j,rfl⟩:∃q,j=q+1:=⟨j-1,by omega⟩;have:=sK.Lw (u:=u) (i+1) j h.2.2.2.2 (by rw[hf];congr 2;omega);simpa using⟨h.1,h.2.1,h.2.2.1,h.2.2.2.1,this⟩
  .rw[hq] at hf;simp only[abG,afr] at hf;obtain rfl:j=0:=by omega
   simpa using h.2.2.2.2
theorem Rel.nC (R:Rel P W0 ι h w){m r:Nat}{t:κ}{es:List nU}{es0 es':Array MapEntry}{c0 c:Nat}(hm:ι.mp m=some r)(hb:w.heap[r]?=some (.map es0 c0))
  (hes:sK P ι t es es'.toList):Rel P W0 ι (h.nC m ⟨t,c,es⟩) { w with heap:=w.heap.setIfInBounds r (.map es' c) }:=by
 have hr:=(Array.getElem?_eq_some_iff.1 hb).1;have hget:∀i:Nat,(w.heap.setIfInBounds r (.map es' c))[i]?=if i=r then some (.map es' c) else w.heap[i]?:=λi=>by
  grind
 have hcells:∀(i:Nat) cc e fz,w.heap[i]?=some (.cells cc e fz)->(w.heap.setIfInBounds r (.map es' c))[i]?=some (.cells cc e fz):=λi cc e fz hi=>by
  grind
 have hcell:∀a v,w.cell? a=some v->World.cell? { w with heap:=w.heap.setIfInBounds r (.map es' c) } a=some v:=by
  grind [World.cell?]
 have hmg:∀j,(h.nC m ⟨t,c,es⟩).jy j=if j=m then some ⟨t,c,es⟩ else h.jy j:=λj=>cS _ _ _ _;refine⟨λi o hi=>?_,R.ye,R.nx,λb l hl=>?_,λb c1 g base e hb1=>?_,R.dY,R.oV,R.os,R.GK,⟨λm' hm'=>?_,λm' r' hm'=>?_,R.mp.inj,λm' x1 hm'=>?_⟩⟩
 .simp only[hget];rw[By (λx=>by subst x;rw[(R.mp.loc m i hm).1] at hi;cases hi)];exact R.nY i o hi
 .obtain⟨cc,fz,q1,q2⟩:=R.loc b l hl;exact⟨cc,fz,hcells _ _ _ _ q1,q2⟩
 .obtain⟨l,q1,q2,q3,q4,q5⟩:=R.live b c1 g base e hb1
  grind
 .have q:=R.mp.ye m' hm'
  grind
 .refine⟨(R.mp.loc m' r' hm').1,?_⟩;simp only[hget];by_cases e:r'=r
  .exact⟨es',c,by rw[AT e]⟩
  .rw[By e];exact (R.mp.loc m' r' hm').2
 .rw[hmg] at hm';by_cases e:m'=m
  .grind
  .rw[By e] at hm';obtain⟨r',es2,q1,q2,q3⟩:=R.mp.live m' x1 hm';have hne:r'≠r:=λx=>by subst x;exact e (R.mp.inj m' m _ q1 hm)
   grind
theorem Ly (R:Rel P W0 ι h w){kt:κ}{m:Nat}(hx:Be kt h=some (m,h1)) :
  ∃ι',ι.le ι'/\ι'.mp m=some w.heap.size/\Rel P W0 ι' h1 { w with heap:=w.heap.push (.map #[] 0) }:=by
 unfold Be at hx;cases hx;have hd:=R.mp.ye h.next R.unused
 have hle:ι.le ⟨ι.f,λj=>if j=h.next then some w.heap.size else ι.mp j⟩:=by
  refine⟨λ_ _ x=>x,λm r hm=>?_⟩
  grind
 have hused:∀b,({ h.nC h.next ⟨kt,0,[]⟩ with next:=h.next+1,used:=λj=>cond (Nat.beq j h.next) true (h.used j) }:af).used b=if b=h.next then true else h.used b:=λb=>cS _ _ _ _
 have hus:∀b,({ h.nC h.next ⟨kt,0,[]⟩ with next:=h.next+1,used:=λj=>cond (Nat.beq j h.next) true (h.used j) }:af).used b=false->b≠h.next/\h.used b=false:=λb hb=>by
  grind
 refine⟨_,hle,by simp,?_⟩;have hnone:W0 w.heap.size=none:=by
  cases hq:W0 w.heap.size with
  |none=>rfl
  |some o=>have:=(Array.getElem?_eq_some_iff.1 (R.nY _ o hq)).1;omega
 have hlt:∀(i:Nat) o,w.heap[i]?=some o->(w.heap.push (.map #[] 0))[i]?=some o:=λi o hi=>by
  grind
 have hmg:∀j,(h.nC h.next ⟨kt,0,[]⟩).jy j=if j=h.next then some ⟨kt,0,[]⟩ else h.jy j:=λj=>cS _ _ _ _
 refine⟨λi o hi=>hlt _ _ (R.nY i o hi),λb hb=>R.ye b (hus b hb).2,λb hb=>?_,λb l hl=>?_,λb c1 g base e hb1=>?_,R.dY,λb c1 g base e hb1 hg=>?_,R.os,R.GK,⟨λm' hm'=>?_,λm' r' hm'=>?_,λm1 m2 r h1 h2=>?_,λm' x1 hm'=>?_⟩⟩
 .have hb:h.next+1<=b:=hb
  refine (hused b).trans ?_;rw[By (by omega)];exact R.nx b (by omega)
 .obtain⟨cc,fz,q1,q2⟩:=R.loc b l hl;exact⟨cc,fz,hlt _ _ q1,q2⟩
 .obtain⟨l,q1,q2,q3,q4,q5⟩:=R.live b c1 g base e hb1;exact⟨l,q1,q2,q3,q4,λi v hv=>let ⟨v',a,b,d⟩:=q5 i v hv;⟨v',Ca _ _ a,b,d.mono hle⟩⟩
 .obtain⟨q1,q2⟩:=R.oV b c1 g base e hb1 hg;refine⟨q1,(hused _).trans ?_⟩;split
  .rfl
  .exact q2
 .obtain⟨hne,hu⟩:=hus m' hm';refine⟨?_,?_⟩
  .refine (hmg m').trans ?_;rw[By hne];exact (R.mp.ye m' hu).1
  .simp only[By hne];exact (R.mp.ye m' hu).2
 .by_cases e:m'=h.next
  .grind
  .simp only[By e] at hm';obtain⟨q1,es,c,q2⟩:=R.mp.loc m' r' hm';exact⟨q1,es,c,hlt _ _ q2⟩
 .have nY:∀m r,ι.mp m=some r->r<w.heap.size:=λm r hm=>by
   obtain⟨_,es,c,q⟩:=R.mp.loc m r hm;exact (Array.getElem?_eq_some_iff.1 q).1
  by_cases e1:m1=h.next<;>by_cases e2:m2=h.next
  .rw[e1,e2]
  .grind
  .grind
  .simp only[By e1] at h1;simp only[By e2] at h2;exact R.mp.inj _ _ _ h1 h2
 .replace hm':=(hmg m').symm.trans hm'
  by_cases e:m'=h.next
  .rw[AT e] at hm';cases hm';exact⟨w.heap.size,#[],by simp[e],by simp,trivial⟩
  .rw[By e] at hm';obtain⟨r',es2,q1,q2,q3⟩:=R.mp.live m' x1 hm';exact⟨r',es2,by simp[e,q1],hlt _ _ q2,q3.mono hle⟩
theorem GX (R:Rel P W0 ι h w){k:Nat}{kt:κ}{m:Nat}(hx:vf k kt h=some (m,h1)) :
  ∃ι',ι.le ι'/\ι'.mp m=some w.heap.size/\Rel P W0 ι' h1 { w with heap:=w.heap.push (.map #[] 0) }:=by
 unfold vf at hx;split at hx
 case isFalse=>cases hx
 rename_i hk;simp only[abG,afr] at hx;obtain⟨hkm,rfl⟩:=hx;subst hkm;have hd:=R.mp.ye k hk.1;have hle:ι.le ⟨ι.f,λj=>if j=k then some w.heap.size else ι.mp j⟩:=by
  refine⟨λ_ _ x=>x,λm' r hm=>?_⟩
  grind
 have hused:∀b,(h.Ni k kt).used b=if b=k then true else h.used b:=λb=>cS _ _ _ _;have hus:∀b,(h.Ni k kt).used b=false->b≠k/\h.used b=false:=λb hb=>by
  grind
 refine⟨_,hle,by simp,?_⟩;have hnone:W0 w.heap.size=none:=by
  cases hq:W0 w.heap.size with
  |none=>rfl
  |some o=>have:=(Array.getElem?_eq_some_iff.1 (R.nY _ o hq)).1;omega
 have hlt:∀(i:Nat) o,w.heap[i]?=some o->(w.heap.push (.map #[] 0))[i]?=some o:=λi o hi=>by
  grind
 have hmg:∀j,(h.nC k ⟨kt,0,[]⟩).jy j=if j=k then some ⟨kt,0,[]⟩ else h.jy j:=λj=>cS _ _ _ _;refine⟨λi o hi=>hlt _ _ (R.nY i o hi),λb hb=>R.ye b (hus b hb).2,λb hb=>?_,λb l hl=>?_,λb c1 g base e hb1=>?_,R.dY,λb c1 g base e hb1 hg=>?_,R.os,R.GK,⟨λm' hm'=>?_,λm' r' hm'=>?_,λm1 m2 r h1 h2=>?_,λm' x1 hm'=>?_⟩⟩
 .have hb:h.next<=b:=hb
  refine (hused b).trans ?_;rw[By (by have:=hk.2;omega)];exact R.nx b hb
 .obtain⟨cc,fz,q1,q2⟩:=R.loc b l hl;exact⟨cc,fz,hlt _ _ q1,q2⟩
 .obtain⟨l,q1,q2,q3,q4,q5⟩:=R.live b c1 g base e hb1;exact⟨l,q1,q2,q3,q4,λi v hv=>let ⟨v',a,b,d⟩:=q5 i v hv;⟨v',Ca _ _ a,b,d.mono hle⟩⟩
 .obtain⟨q1,q2⟩:=R.oV b c1 g base e hb1 hg;refine⟨q1,(hused _).trans ?_⟩;split
  .rfl
  .exact q2
 .obtain⟨hne,hu⟩:=hus m' hm';refine⟨?_,?_⟩
  .refine (hmg m').trans ?_;rw[By hne];exact (R.mp.ye m' hu).1
  .simp only[By hne];exact (R.mp.ye m' hu).2
 .by_cases e:m'=k
  .grind
  .simp only[By e] at hm';obtain⟨q1,es,c,q2⟩:=R.mp.loc m' r' hm';exact⟨q1,es,c,hlt _ _ q2⟩
 .have nY:∀k r,ι.mp k=some r->r<w.heap.size:=λk r hm=>by
   obtain⟨_,es,c,q⟩:=R.mp.loc k r hm;exact (Array.getElem?_eq_some_iff.1 q).1
  by_cases e1:m1=k<;>by_cases e2:m2=k
  .rw[e1,e2]
  .grind
  .grind
  .simp only[By e1] at h1;simp only[By e2] at h2;exact R.mp.inj _ _ _ h1 h2
 .replace hm':=(hmg m').symm.trans hm'
  by_cases e:m'=k
  .rw[AT e] at hm';cases hm';exact⟨w.heap.size,#[],by simp[e],by simp,trivial⟩
  .rw[By e] at hm';obtain⟨r',es2,q1,q2,q3⟩:=R.mp.live m' x1 hm';exact⟨r',es2,by simp[e,q1],hlt _ _ q2,q3.mono hle⟩
theorem aR.Iq {m:μ}{v':ξ}(hr:aR P ι (.map m) v'):(m=none/\v'=.map none)\/∃a r,m=some a/\v'=.map (some r)/\ι.mp a=some r:=by
 cases hr with
 |flat _ hf=>cases m with
  |none=>exact .inl ⟨rfl,rfl⟩
  |some a=>simp[dz] at hf
 |map a r hr=>exact .inr ⟨a,r,rfl,rfl,hr⟩
theorem wN {kt:κ}{m:Nat}{c:Nat}{es:List nU}(hx:h.zZ kt m=some (c,es)):h.jy m=some ⟨kt,c,es⟩:=by
 unfold af.zZ at hx;split at hx
 .rename_i x hg;split at hx
  .rename_i hb;cases hx;rw[hg,<-aab hb]
  .cases hx
 .cases hx
theorem Ir {t:Ty}{v:ξ}{x:t.den}(hx:KM t v=some x):v=De t x:=by
 cases t with
 |one l=>exact sL hx
 |agg ls=>
  cases v<;>simp only[KM] at hx<;>try cases hx
  rename_i cs;rw[De,<-Cb hx]
theorem zk {kt:κ}{k:ξ}(h:nW P kt k=true):∃d,P.underlying kt=some d:=by
 unfold nW at h;split at h
 .rename_i K hK;unfold KP at hK;split at hK
  .exact⟨_,by assumption⟩
  .exact⟨_,by assumption⟩
  .split at hK
   .rename_i l hl;obtain⟨_,⟨k,h1,_⟩|⟨h1,_⟩|⟨h1,_⟩⟩:=qd hl<;>exact⟨_,h1⟩
   .cases hK
 .cases h
theorem It (R:Rel P W0 ι h w){t k e:κ}(ht:P.underlying t=some (.map k e)){m:μ}{x' kv kv':ξ}(hm:aR P ι (.map m) x')(hk:nW P k kv=true)(hkr:aR P ι kv kv')
  {T:Ty} {zv:ξ} (hz:zeroOf P e=some zv) {z:T.den} (huz:KM T zv=some z) {ok:Bool} {r:Bool×T.den} (hx:xA k T z m kv h=some (r,h1)) :
  fJ P W0 ι w (Instr.lookup t x' kv' ok) (match ok with|true=>.tuple #[De T r.2,.bool r.1] | false=>De T r.2) h1:=by
 have K:=Io hk;obtain rfl:=(K.flat _ _ hkr).symm;obtain⟨d,hd⟩:=zk hk;obtain⟨_,hz1,_⟩:=gW hz;have hzz:=Ir huz;have hzf:aR P ι zv zv:=by
  obtain⟨q,_⟩:=gW hz;cases zv with
  |agg cs=>
   refine .agg _ _ rfl ?_;intro i u u' a b;rw[a] at b;cases b;exact .flat _ (List.all_eq_true.1 q u (by simpa[Value.cells] using ahi a))
  |_=>exact .flat _ (by simpa[Value.cells] using q)
 have fin:∀(b:Bool) (x:T.den) (v':ξ),aR P ι (De T x) v' ->
   aR P ι (match ok with|true=>.tuple #[De T x,.bool b] | false=>De T x) (if ok then .tuple #[v',.bool b] else v'):=by
  intro b x v' hv;cases ok
  .exact hv
  .refine .tuple _ _ rfl λi u u' a c=>?_
   match i with
   |0=>simp at a c;subst a;subst c;exact hv
   |1=>simp at a c;subst a;subst c;exact .ofBool
   |i+2=>simp at a
 unfold xA at hx;split at hx
 .cases hx;rcases hm.Iq with⟨_,rfl⟩|⟨a,r,h2,_⟩
  .have hfk:(Instr.findKey k kv #[].toList).run P w=.ok none w:=sO (es:=[]) hd K w (by simp);refine .ret (v':=if ok then .tuple #[zv,.bool false] else zv) ?_ (fin false z zv (by rw[<-hzz];exact hzf)) R;simp at hfk;cases ok<;>simp[Instr.lookup,aK ht,K.mY,hfk,hz1]
  .cases h2
 .rename_i m0;rcases hm.Iq with⟨h2,_⟩|⟨a,r0,h2,rfl,hr0⟩
  .cases h2
  .cases h2;split at hx
   .rename_i c es hes;obtain⟨r1,es',q1,q2,q3⟩:=R.mp.live _ _ (wN hes);rw[hr0] at q1;cases q1;have hfk:=sO (es:=es'.toList) hd K w q3.keys;have hgo:=MapKept.run_getObj_map (P:=P) q2;split at hx
    .rename_i v hv;split at hx
     .rename_i x hux;cases hx;unfold xz at hv;rcases sK.find kv 0 q3 with⟨h3,_⟩|⟨v1,v',j,h3,h4,h5,_⟩
      .rw[h3] at hv;cases hv
      .rw[h3] at hv;cases hv;rw[h4] at hfk;refine .ret (v':=if ok then .tuple #[v',.bool true] else v') ?_ (fin true x v' (by rw[<-Ir hux];exact h5)) R;cases ok<;>simp[Instr.lookup,aK ht,K.mY,hgo,hfk]
     .cases hx
    .rename_i hv;cases hx;unfold xz at hv;rcases sK.find kv 0 q3 with⟨h3,h4⟩|⟨v1,v',j,h3,h4,h5,_⟩
     .rw[h4] at hfk;refine .ret (v':=if ok then .tuple #[zv,.bool false] else zv) ?_ (fin false z zv (by rw[<-hzz];exact hzf)) R;cases ok<;>simp[Instr.lookup,aK ht,K.mY,hgo,hfk,hz1]
     .rw[h3] at hv;cases hv
   .cases hx
theorem xE (R:Rel P W0 ι h w){t k e:κ}(ht:P.underlying t=some (.map k e)){m:μ}{x' kv kv' v v':ξ}(hm:aR P ι (.map m) x')(hk:nW P k kv=true)(hkr:aR P ι kv kv')(hv:aR P ι v v')
  {u:Unit} (hx:Df k m kv v h=some (u,h1)):∃w',(Instr.mapUpdate t x' kv' v').run P w=.ok () w'/\Rel P W0 ι h1 w':=by
 have K:=Io hk;obtain rfl:=(K.flat _ _ hkr).symm;obtain⟨d,hd⟩:=zk hk;unfold Df at hx;split at hx
 .cases hx
 .rename_i m0;rcases hm.Iq with⟨h2,_⟩|⟨a,r0,h2,rfl,hr0⟩
  .cases h2
  .cases h2;split at hx
   .rename_i c es hes;cases hx;obtain⟨r1,es',q1,q2,q3⟩:=R.mp.live _ _ (wN hes);rw[hr0] at q1;cases q1;have hfk:=sO (es:=es'.toList) hd K w q3.keys;have hgo:=MapKept.run_getObj_map (P:=P) q2;have hst:(Instr.keyThatStays kv kv).run P w=.ok kv w:=(by simp[Instr.keyThatStays,K.same]);rcases sK.find kv 0 q3 with⟨h3,h4⟩|⟨v1,v2,j,h3,h4,h5,h5b,e',h6,h7,h8,h9⟩
    .rw[h4] at hfk;have hes2:sK P ι k (pY kv v c es) (es'.push { key:=kv,val:=v',born:=c }).toList:=(by simpa using sK.Ip hk hv 0 q3 h4);simp only at h3;simp only[h3];refine⟨{ w with heap:=w.heap.setIfInBounds r0 (.map (es'.push { key:=kv,val:=v',born:=c }) (c+1)) },?_,R.nC hr0 q2 hes2⟩
     .simp[Instr.mapUpdate,aK ht,hgo,K.mY,hfk,MapKept.run_setObj_map _ q2]
    .rw[h4] at hfk;have h6':es'[j]?=some e':=(by simpa using h6);have hes2:sK P ι k (pY kv v c es) (es'.modify j λe=>{ e with key:=kv,val:=v' }).toList:=by
      have:=sK.PU (c:=c) hk hv 0 j q3 h4;simpa using this
     simp only at h3;simp only[h3];refine⟨{ w with heap:=w.heap.setIfInBounds r0 (.map (es'.modify j λe=>{ e with key:=kv,val:=v' }) c) },?_,R.nC hr0 q2 hes2⟩
     .simp[Instr.mapUpdate,aK ht,hgo,K.mY,hfk,MapKept.run_setObj_map _ q2,h6',h7,hst]
   .cases hx
theorem Fi (R:Rel P W0 ι h w){t k e:κ}(ht:P.underlying t=some (.map k e)){m:μ}{x' kv kv':ξ}(hm:aR P ι (.map m) x')(hk:nW P k kv=true)(hkr:aR P ι kv kv')
  {T:Ty} {zv:ξ} (hz:zeroOf P e=some zv) {z:T.den} (huz:KM T zv=some z) {r:T.den×Nat} (hx:wH k T z m kv h=some (r,h1)) :
  fJ P W0 ι w (Instr.mapEntry t x' kv') (.tuple #[De T r.1,.int .i64 r.2]) h1:=by
 have K:=Io hk;obtain rfl:=(K.flat _ _ hkr).symm;obtain⟨d,hd⟩:=zk hk;obtain⟨_,hz1,_⟩:=gW hz;have hzz:=Ir huz;have hzf:aR P ι zv zv:=by
  obtain⟨q,_⟩:=gW hz;cases zv with
  |agg cs=>
   refine .agg _ _ rfl ?_;intro i u u' a b;rw[a] at b;cases b;exact .flat _ (List.all_eq_true.1 q u (by simpa[Value.cells] using ahi a))
  |_=>exact .flat _ (by simpa[Value.cells] using q)
 have fin:∀(b:Nat) (x:T.den) (v':ξ),aR P ι (De T x) v'->aR P ι (.tuple #[De T x,.int .i64 b]) (.tuple #[v',.int .i64 b]):=by
  intro b x v' hv;refine .tuple _ _ rfl λi u u' a c=>?_
  match i with
  |0=>simp at a c;subst a;subst c;exact hv
  |1=>simp at a c;subst a;subst c;exact .ofInt
  |i+2=>simp at a
 unfold wH at hx;split at hx
 .cases hx
 .rename_i m0;rcases hm.Iq with⟨h2,_⟩|⟨a,r0,h2,rfl,hr0⟩
  .cases h2
  .cases h2;split at hx
   .rename_i c es hes;obtain⟨r1,es',q1,q2,q3⟩:=R.mp.live _ _ (wN hes);rw[hr0] at q1;cases q1;have hfk:=sO (es:=es'.toList) hd K w q3.keys;have hgo:=MapKept.run_getObj_map (P:=P) q2;have hst:(Instr.keyThatStays kv kv).run P w=.ok kv w:=(by simp[Instr.keyThatStays,K.same]);split at hx
    .rename_i e0 hv;split at hx
     .rename_i x hux;cases hx;rcases sK.find kv 0 q3 with⟨h3,h4⟩|⟨v1,v2,j,h3,h4,h5,h5b,e',h6,h7,h8,h9⟩
      .rw[h3] at hv;cases hv
      .rw[h3] at hv;cases hv;rw[h4] at hfk;have h6':es'[j]?=some e':=(by simpa using h6);have hsame:es'.modify j (λe=>{ e with key:=kv })=es':=by
        apply aeM;simpa using sK.Lt 0 j q3 h4
       refine⟨.tuple #[v2,.int .i64 e0.born],{ w with heap:=w.heap.setIfInBounds r0 (.map es' c) },ι,?_,fin _ _ _ (by rw[<-Ir hux];exact h5),?_,.refl _⟩
       .simp[Instr.mapEntry,aK ht,hgo,K.mY,hfk,MapKept.run_setObj_map _ q2,h6',h7,h8,hst,hsame,goInt]
       .have hid:w.heap.setIfInBounds r0 (.map es' c)=w.heap:=by
         apply ahY;intro i;rw[agO];by_cases hi:r0=i
         .grind
         .rw[By hi]
        rw[hid];exact R
     .cases hx
    .rename_i hv;cases hx;rcases sK.find kv 0 q3 with⟨h3,h4⟩|⟨v1,v2,j,h3,h4,h5,h5b,e',h6,h7,h8,h9⟩
     .rw[h4] at hfk;refine⟨.tuple #[zv,.int .i64 c],{ w with heap:=w.heap.setIfInBounds r0 (.map (es'.push { key:=kv,val:=zv,born:=c }) (c+1)) },ι,?_,fin c z zv (by rw[<-hzz];exact hzf),R.nC hr0 q2 ?_,.refl _⟩
      .simp[Instr.mapEntry,aK ht,hgo,K.mY,hfk,MapKept.run_setObj_map _ q2,hz1,goInt]
      .rw[<-hzz];simpa using sK.Ip hk hzf 0 q3 h4
     .rw[h3] at hv;cases hv
   .cases hx
theorem Ce (R:Rel P W0 ι h w){t:κ}{m:μ}{x' v v':ξ}{kk:IntKind}{st:Int}(hm:aR P ι (.map m) x')(hv:aR P ι v v')
  {u:Unit} (hx:wI m st v h=some (u,h1)):∃w',(Instr.entryStore t x' (.int kk st) v').run P w=.ok () w'/\Rel P W0 ι h1 w':=by
 unfold wI at hx;split at hx
 .cases hx
 .rename_i m0;rcases hm.Iq with⟨h2,_⟩|⟨a,r0,h2,rfl,hr0⟩
  .cases h2
  .cases h2;split at hx
   .rename_i x hes;split at hx
    .rename_i es hd hp;cases hx;obtain⟨r1,es',q1,q2,q3⟩:=R.mp.live _ _ hes;rw[hr0] at q1;cases q1;have hgo:=MapKept.run_getObj_map (P:=P) q2;obtain⟨j,h3,h4⟩:=sK.dA hv q3 hp;have hst:((st.toNat:Nat):Int)=st:=Int.toNat_of_nonneg (agX hd);rw[hst] at h3;have h3':es'.findIdx? (λe=>(e.born:Int)==st)=some j:=by
      rw[<-agZ (xs:=es'),List.findIdx?_toArray];exact h3
     refine⟨{ w with heap:=w.heap.setIfInBounds r0 (.map (es'.modify j λe=>{ e with val:=v' }) x.clock) },?_,R.nC hr0 q2 ?_⟩
     .simp[Instr.entryStore,hgo,asInt,asIntOf,h3',MapKept.run_setObj_map _ q2]
     .simpa using h4
    .cases hx
   .cases hx
theorem Iu (R:Rel P W0 ι h w){t k e ty:κ}{ts:Array κ}(hts:ts[0]?=some t)(ht:P.underlying t=some (.map k e)){m:μ}{x' kv kv':ξ}(hm:aR P ι (.map m) x')(hk:nW P k kv=true)(hkr:aR P ι kv kv')
  {u:Unit} (hx:T7 k m kv h=some (u,h1)):fJ P W0 ι w (Builtin.delete_ ts ty #[x',kv']) (.tuple #[]) h1:=by
 have K:=Io hk;obtain rfl:=(K.flat _ _ hkr).symm;obtain⟨d,hd⟩:=zk hk;unfold T7 at hx;split at hx
 .cases hx;rcases hm.Iq with⟨_,rfl⟩|⟨a,r,h2,_⟩
  .refine .ret (v':=.tuple #[]) ?_ (.tuple _ _ rfl (by simp)) R;simp[Builtin.delete_,hts,aK ht,K.mY]
  .cases h2
 .rename_i m0;rcases hm.Iq with⟨h2,_⟩|⟨a,r0,h2,rfl,hr0⟩
  .cases h2
  .cases h2;split at hx
   .rename_i c es hes;cases hx;obtain⟨r1,es',q1,q2,q3⟩:=R.mp.live _ _ (wN hes);rw[hr0] at q1;cases q1;have hfk:=sO (es:=es'.toList) hd K w q3.keys;have hgo:=MapKept.run_getObj_map (P:=P) q2;rcases sK.find kv 0 q3 with⟨h3,h4⟩|⟨v1,v2,j,h3,h4,h5,h5b,e',h6,h7,h8,h9⟩
    .rw[h4] at hfk;refine⟨.tuple #[],{ w with heap:=w.heap.setIfInBounds r0 (.map es' c) },ι,?_,.tuple _ _ rfl (by simp),R.nC hr0 q2 ?_,.refl _⟩
     .simp[Builtin.delete_,hts,aK ht,hgo,K.mY,hfk,MapKept.run_setObj_map _ q2]
     .rw[sK.Lu 0 q3 h4];exact q3
    .rw[h4] at hfk;refine⟨.tuple #[],{ w with heap:=w.heap.setIfInBounds r0 (.map (es'.eraseIdxIfInBounds j) c) },ι,?_,.tuple _ _ rfl (by simp),R.nC hr0 q2 ?_,.refl _⟩
     .simp[Builtin.delete_,hts,aK ht,hgo,K.mY,hfk,MapKept.run_setObj_map _ q2]
     .have:=sK.Lw 0 j q3 h4
      simp_all
   .cases hx
theorem Lz (R:Rel P W0 ι h w){t k e ty:κ}{ts:Array κ}(hts:ts[0]?=some t)(ht:P.underlying t=some (.map k e)){m:μ}{x':ξ}(hm:aR P ι (.map m) x')
  {n:Nat} (hx:Dg m h=some (n,h1)):fJ P W0 ι w (Builtin.len_ ts ty #[x']) (.int .i64 n) h1:=by
 unfold Dg at hx;split at hx
 .cases hx;rcases hm.Iq with⟨_,rfl⟩|⟨a,r,h2,_⟩
  .exact .ret (v':=.int .i64 0) (by simp[Builtin.len_,hts,aK ht,goInt]) .ofInt R
  .cases h2
 .rename_i m0;rcases hm.Iq with⟨h2,_⟩|⟨a,r0,h2,rfl,hr0⟩
  .cases h2
  .cases h2;split at hx
   .rename_i x hes;cases hx;obtain⟨r1,es',q1,q2,q3⟩:=R.mp.live _ _ hes;rw[hr0] at q1;cases q1;have hl:=q3.length;refine .ret (v':=.int .i64 x.es.length) ?_ .ofInt R;have hgo:=MapKept.run_getObj_map (P:=P) q2;simp at hl;simp[Builtin.len_,hts,aK ht,goInt,hgo,hl]
   .cases hx
theorem LA (R:Rel P W0 ι h w){t e ty:κ}{ts:Array κ}(hts:ts[0]?=some t)(ht:P.underlying t=some (.slice e)){z:Nat}(hz:bR P e=some z){a:θ}{n c:Nat}{a2:θ}{n2 c2:Nat}{x' y':ξ}
  (hd:aR P ι (.slice a n c) x') (hs:aR P ι (.slice a2 n2 c2) y') {k:Nat} (hx:xB ⟨a,n,c⟩ ⟨a2,n2,c2⟩ z h=some (k,h1)) :
  fJ P W0 ι w (Builtin.copy_ ts ty #[x',y']) (.int .i64 k) h1:=by
 have src:∀cs,aU h a2 (Nat.min n2 n*z)=some cs->∃cs',bC P ι cs cs'/\(Builtin.firstCells z (Nat.min n2 n) y').run P w=.ok cs'.toArray w/\(∀v∈cs,eZ v=true):=by
  intro cs hc;cases hs with
  |flat _ hf=>
   cases a2 with
   |some a=>simp[dz] at hf
   |none=>
    simp[aU] at hc;obtain⟨h0,rfl⟩:=hc;exact⟨[],.nil,by simp[Builtin.firstCells],by simp⟩
  |slice b b' n c c' l e1 e2 e3 e4 e5 e6 e7 e8=>
   obtain⟨cs',q1,q2,q3,q4,q5⟩:=su R ⟨e1,e2,l,e3,e4,e5⟩ hc
   grind [Builtin.firstCells]
  |jz b b' c hce=>
   have:cs=[]:=by
    simp[aU] at hc
    grind
   subst this;exact⟨[],.nil,by simp[Builtin.firstCells,loadCells,loadCellsFrom],by simp⟩
 obtain⟨y2,c3,hy2,_⟩:=hs.slO;obtain⟨x2,c4,hx2,hxn⟩:=hd.slO;have hlen:(Builtin.lenOf y').run P w=.ok n2 w:=by rw[hy2];simp[Builtin.lenOf]
 unfold xB at hx;split at hx
 .rename_i hc;cases hx;obtain⟨cs',q1,q2,_⟩:=src _ hc;have:cs'=[]:=by have:=q1.1;simp at this;exact acb this.symm
  subst this;refine .ret (v':=.int .i64 (Nat.min n2 n)) ?_ .ofInt R;subst hx2;cases x2<;>simp[Builtin.copy_,hts,aK ht,hlen,jg hz,q2,storeCells,goInt]
 .rename_i cs hne hc;split at hx
  .cases hx
  .rename_i b hb;split at hx
   .rename_i u h2 hst;cases hx;obtain⟨cs',q1,q2,_⟩:=src _ hc;have hb:a=some b:=hb;subst hb;cases hd with
    |flat _ hf=>simp[dz] at hf
    |slice _ b' n c c' l e1 e2 e3 e4 e5 e6 e7 e8=>
     obtain⟨w',hr,R'⟩:=Cc R ⟨e1,e2,l,e3,e4,e5⟩ q1 hst;refine⟨.int .i64 (Nat.min n2 n),w',ι,?_,.ofInt,R',.refl _⟩;simp[Builtin.copy_,hts,aK ht,hlen,jg hz,q2,goInt,hr]
    |jz _ b' c hce=>
     exfalso;have:cs=[]:=by
      have:Nat.min n2 0*z=0:=(by simp);rw[this] at hc;unfold aU at hc
      grind
     exact hne this
   .cases hx
 .cases hx
end Go.Ago
