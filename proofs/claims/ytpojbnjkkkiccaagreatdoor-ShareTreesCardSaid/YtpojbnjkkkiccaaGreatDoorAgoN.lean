
import Derived.Test.YtpojbnjkkkiccaaGreatDoorAgoK
import Derived.Test.YtpojbnjkkkiccaaGreatDoorAgoZ
import Derived.ChangeSlices
set_option linter.all false
namespace Go.Ago
open Go Go.ChangeShapes
variable {P:Program}{W:World}{ι:gO}{h h':ai}
structure HV (P:Program) (W:World) (ι:gO) (h:ai):Prop where
 rel:Rel P ⟨λi=>W.heap[i]?,W.os,W.output,[],λ_=>True⟩ ι h W
 wf:WF h
 ro:∀b l,ι b=some l->l.ro=true
noncomputable def h00:ai:=⟨λ_=>none,λ_=>none,0,λ_=>0,λ_=>false,λ_=>Classical.propDecidable _⟩
theorem aoc:WF h00:=⟨λ_ _=>rfl,λ_ _=>rfl,λ_ _ _ _ _ h=>(by cases h),λ_ _=>rfl⟩
theorem HV.emp (hlib:∀W',Kept W W'->lr W'):HV P W gO.emp h00:=
 ⟨⟨λ_ _ h=>h,λb _=>⟨rfl,rfl⟩,λb _=>rfl,λ_ _ h=>(by cases h),λb c g bs el h=>(by cases h),λ_ _ _ _ _ _ _ _ _ _ _ _ h=>(by cases h),λb c g bs el h=>(by cases h),⟨rfl,rfl⟩,
  λw' hw'=>hlib ⟨w'.heap,w'.tape,w'.drawn,W.os,W.output⟩ ⟨hw',rfl,rfl⟩ |>.of_heap rfl,⟨λm _=>⟨rfl,rfl⟩,λ_ _ h=>(by cases h),λ_ _ _ h=>(by cases h),λm x h=>(by cases h)⟩⟩,aoc,λ_ _ h=>(by cases h)⟩
def HV.calls {e}(B:HV P W ι h)(ok:aC P e)(hen:Enters P e.id){x}{y}(hm:Wp (e.m x) h λz _=>z=y) args (hl:aW P ι (fC e.as x) args.toList) :
  Calls P e.id args W λr W'=>∃v' ι',r=.returned v'/\aN P ι' (gE (fC e.rs y)) v'/\Kept W W':=by
 obtain⟨z,h1,e1,rfl⟩:=hm;refine ((ok x).calls hen _ h z h1 e1 ι W args B.rel hl).mono λr W' hr=>?_;obtain⟨v',ι',h2,h3,R1,_⟩:=hr;exact⟨v',ι',h2,h3,R1.lA,R1.os.1,R1.os.2⟩
def gO.add (ι:gO)(b:Nat)(l:Loc):gO:={ ι with f:=λi=>if i=b then some l else ι i }
def ai.rd (h:ai)(e:κ)(cs:δ):ai:=h.ext h.next (h.next+1) h.get (.cells cs 0 0 e) h.qI
theorem IP {e}{cs}:(h.rd e cs).get h.next=some (.cells cs 0 0 e):=by
 simp[ai.rd,ai.ext,al3,cond_true]
theorem Mj {e}{cs}{j}(hj:j≠h.next):(h.rd e cs).get j=h.get j:=by
 simp[ai.rd,ai.ext,cQ hj,aos]
theorem WF.rd (hw:WF h){e}{cs}:WF (h.rd e cs):=by
 refine⟨λj hj=>?_,λj hj=>?_,λj c g b e' hj=>?_,λj hj=>?_⟩
 .have hj:h.next+1<=j:=hj
  rw[Mj (by omega)];exact hw.get j (by omega)
 .have hj:h.next+1<=j:=hj
  simp[ai.rd,ai.ext,cQ (show j≠h.next by omega),aos];exact hw.used j (by omega)
 .show g<=h.next+1
  by_cases e2:j=h.next
  .grind [IP]
  .rw[Mj e2] at hj;have:=hw.jo j c g b e' hj;omega
 .have hj:=cu hj;exact hw.maps j hj.2
theorem Fr.rd (hw:WF h){e}{cs}:Fr (λ_=>False) h (h.rd e cs):=by
 refine⟨hw.rd,ane _,λj c g b e' hj _=>?_,λ_ _ _=>rfl,λj hj=>?_,λj hj hn=>?_,λ_ _ hj _=>hj⟩
 .rw[Mj (λe2=>?_)];· exact hj
  subst e2;rw[hw.get _ (abi _)] at hj;cases hj
 .simp[ai.rd,ai.ext,cQ (show j≠h.next by omega),aos]
 grind [Mj]
theorem HV.add (B:HV P W ι h){ar off}{cc}{e}{fz}(ho:W.heap[ar]?=some (.cells cc e fz)){c}(hl:off+c.length<=cc.size)
  (hc:∀i v,c[i]?=some v->∃v',W.cell? ⟨ar,off+i,none⟩=some v'/\fk v=true/\aN P ι v v') :
  HV P W (ι.add h.next ⟨ar,off,cc.size,e,true⟩) (h.rd e c)/\ι.le (ι.add h.next ⟨ar,off,cc.size,e,true⟩)/\Fr (λ_=>False) h (h.rd e c):=by
 have R:=B.rel;have hnu:ι h.next=none:=(R.zN _ R.unused).2
 have hgn:h.get h.next=none:=(R.zN _ R.unused).1
 have hle:ι.le (ι.add h.next ⟨ar,off,cc.size,e,true⟩):=⟨λb l hb=>by
  show (if b=h.next then _ else ι b)=some l
  grind,λ_ _ hm=>hm⟩
 have hro:∀b l,(ι.add h.next ⟨ar,off,cc.size,e,true⟩) b=some l->(b=h.next/\l=⟨ar,off,cc.size,e,true⟩)\/ι b=some l:=λb l hb=>by
  have hb:(if b=h.next then some _ else ι b)=some l:=hb
  grind
 have hget:∀b x,(h.rd e c).get b=some x->(b=h.next/\x=.cells c 0 0 e)\/(b≠h.next/\h.get b=some x):=λb x hb=>by
  by_cases e2:b=h.next
  .subst e2;rw[IP] at hb;grind
  grind [Mj]
 have hused:∀b,(h.rd e c).used b=false->b≠h.next/\h.used b=false:=λb hb=>by
  have hb:cond (Nat.beq b h.next) true (h.used b)=false:=hb
  grind [Nat.beq_refl,cQ]
 refine⟨⟨⟨R.lA,λb hb=>?_,λb hb=>?_,λb l hb=>?_,λb c' g base e' hb=>?_,λb b' l l' c g base e' c' g' base' e2 hb _ hf=>?_,λb c' g base e' hb hg=>?_,R.os,R.GL,R.mp.Da rfl (λm hm=>(hused m hm).2) hle rfl λ_ _ _ x=>x⟩,B.wf.rd,λb l hb=>?_⟩,hle,Fr.rd B.wf⟩
 .obtain⟨h1,h2⟩:=hused b hb;rw[Mj h1];refine⟨(R.zN b h2).1,?_⟩;show (if b=h.next then _ else ι b)=none
  rw[AT h1];exact (R.zN b h2).2
 .have hb:h.next+1<=b:=hb
  show cond (Nat.beq b h.next) true (h.used b)=false
  rw[cQ (by omega)];exact R.nx b (by omega)
 .rcases hro b l hb with⟨_,rfl⟩|hb
  .grind
  .obtain⟨c1,f1,q1,q2,q3⟩:=R.loc b l hb
   grind
 .rcases hget b _ hb with⟨rfl,e2⟩|⟨h1,hb⟩
  .cases e2;refine⟨⟨ar,off,cc.size,e,true⟩,?_,rfl,by simp,hl,λi v hv=>?_⟩
   .show (if h.next=h.next then _ else _)=_
    rw[By rfl]
   .obtain⟨v',h2,h3,h4⟩:=hc i v hv;exact⟨v',h2,h3,h4.mono hle⟩
  .obtain⟨l,h2,h3,h4,h5,h6⟩:=R.live b c' g base e' hb;exact⟨l,hle.1 _ _ h2,h3,h4,h5,λi v hv=>let ⟨v',a,b,c⟩:=h6 i v hv;⟨v',a,b,c.mono hle⟩⟩
 .rcases hro b l hb with⟨_,rfl⟩|hb
  .cases hf
  .rw[B.ro b l hb] at hf;cases hf
 .rcases hget b _ hb with⟨rfl,e2⟩|⟨h1,hb⟩
  .grind
  .obtain⟨h2,h3⟩:=R.qI b c' g base e' hb hg;refine⟨h2,?_⟩
   grind
 .rcases hro b l hb with⟨_,rfl⟩|hb
  .rfl
  .exact B.ro b l hb
theorem add_add (a:Addr) i j:(a.add i).add j=a.add (i+j):=by
 unfold Addr.add
 grind
def Ny {a}{v}(h:W.cell? a=some v):a.spot=none:=by
 unfold World.cell? at h;split at h
 .simp_all
 .cases h
theorem HW {a}{v}(h:W.cell? a=some v):∃cc e fz,W.heap[a.block]?=some (.cells cc e fz)/\a.off<cc.size:=by
 grind [World.cell?,Array.getElem?_eq_some_iff]
theorem HV.slice (B:HV P W ι h){a}{len cap sz}(hlc:len<=cap)(hsz:0<sz){cs' c}(hl:cs'.length=len*sz)(hcs:∀i v,cs'[i]?=some v->W.cell? (a.add i)=some v)
  (h0:0<cap->∃v,W.cell? a=some v) (hr:aW P ι c cs') (hs:c.all fk=true) :
  ∃ι' h' s,HV P W ι' h'/\ι.le ι'/\Fr (λ_=>False) h h'/\aN P ι' (QX .sl s) (.slice (some a) len cap)/\(∃g,vR h' s sz c g)/\s.len=len/\(s.len≠0->∀h2 e,Fr (λ_=>False) h' h2->lO h2 s e=true):=by
 by_cases hc0:cap=0
 .subst hc0;obtain rfl:len=0:=by omega
  have hcn:c=[]:=List.length_eq_zero_iff.1 (by rw[hr.1,hl];simp);subst hcn;exact⟨ι,h,⟨some ⟨0,0,none⟩,0,0⟩,B,gO.le.refl _,Fr.refl B.wf,aN.lP _ _ _ (.inl rfl),⟨0,vR.nil rfl⟩,rfl,λx=>absurd rfl x⟩
 .obtain⟨v0,hv0⟩:=h0 (by omega);have hsp:=Ny hv0;obtain⟨cc,e,fz,ho,hlt⟩:=HW hv0;have hadd:∀i,a.add i=⟨a.block,a.off+i,none⟩:=λi=>add_eq hsp i;have hlen:a.off+c.length<=cc.size:=by
   rw[hr.1];by_cases hz:cs'.length=0
   .omega
   .have hg:cs'[cs'.length-1]?=some (cs'[cs'.length-1]'(by omega)):=aci _
    grind [HW]
  obtain⟨B1,hle,fr⟩:=B.add ho hlen λi v hv=>by
   obtain⟨v',h1,h2⟩:=hr.get hv
   grind
  refine⟨_,_,⟨some ⟨h.next,0,none⟩,len,0⟩,B1,hle,fr,?_,⟨0,?_⟩,rfl,λ_ h2 e2 f2=>?_⟩
  .refine aN.slice _ a len 0 cap ⟨a.block,a.off,cc.size,e,true⟩ rfl hsp ?_ rfl (by simp) hlc (.inl rfl) (λx _=>by cases x);show (if h.next=h.next then _ else _)=_
   rw[By rfl]
  .refine⟨by rw[hr.1,hl],.inr ⟨_,rfl,rfl,c,0,e,IP,by simp,by simp⟩⟩
  .unfold lO;have:=f2.cells _ _ _ _ _ (IP) (λx=>x.elim)
   simp_all
theorem HV.list {β:Type}{K:ai->β->Prop}{R:δ->Prop} enc (mono:∀h h' x,K h x->Fr (λ_=>False) h h'->K h' x)
  (one:∀ι h l,HV P W ι h->R l->∃ι' h' x,HV P W ι' h'/\ι.le ι'/\Fr (λ_=>False) h h'/\K h' x/\aW P ι' (enc x) l/\(enc x).all fk=true) :
  ∀(els:List δ) ι h ,HV P W ι h->(∀l∈els,R l)->∃(ι':gO) (h':ai) (xs:List β),HV P W ι' h'/\ι.le ι'/\Fr (λ_=>False) h h'/\(∀x∈xs,K h' x)/\aW P ι' (xs.flatMap enc) els.flatten/\(xs.flatMap enc).all fk=true/\xs.length=els.length
 |[],ι,h,B,_=>⟨ι,h,[],B,gO.le.refl _,Fr.refl B.wf,by simp,aW.nil,rfl,rfl⟩
 |l::els,ι,h,B,hR=>by
  obtain⟨ι1,h1,x,B1,le1,f1,k1,r1,s1⟩:=one ι h l B (hR l IS);obtain⟨ι2,h2,xs,B2,le2,f2,k2,r2,s2,n2⟩:=HV.list enc mono one els ι1 h1 B1 λy hy=>hR y (BY _ hy);refine⟨ι2,h2,x::xs,B2,le1.trans le2,f1.trans B.wf f2 (λ_ hy _=>hy.elim),λy hy=>?_,?_,?_,by simp[n2]⟩
  .grind
  .rw[acD,apu];exact (r1.mono le2).append r2
  grind
theorem JW {H}{enc:κ×ξ->H}{t e}{fuel}{cs}{x}(ht:P.underlying t=some (.slice e))(hsz:0<P.cellsOf e)
  (h:DataW.trod enc P W 0 (λ_=>true) true fuel t cs=some x) :
  cs=[.slice none 0 0]\/∃(a:Addr) (len cap:Nat) (els:List δ),cs=[.slice (some a) len cap]/\len<=cap/\cap<=maxLen/\els.length=len /\
   (∀l∈els,l.length=P.cellsOf e/\∃m y,DataW.trod enc P W 0 (λ_=>true) true m e l=some y)/\(∀i v,els.flatten[i]?=some v->W.cell? (a.add i)=some v)/\(0<cap->∃v,W.cell? a=some v):=by
 rcases DataW.trod_slice ht h with h0|⟨a,len,cap,elems,rest,n,_,rfl,_,_,hl,hm,hlen,hel,hsp,_⟩
 .exact .inl h0.1
 .right;obtain⟨hrl,hr⟩:=hsp rfl;have each:∀i,i<len->∃l,W.cells? 0 (a.add (i*P.cellsOf e)) (P.cellsOf e)=some l/\∃y,DataW.trod enc P W 0 (λ_=>true) true n e l=some y:=λi hi=>by
   grind [List.getElem?_eq_getElem,Option.bind_eq_some_iff]
  have built:∀k,k<=len->∃els:List δ,els.length=k/\(∀l∈els,l.length=P.cellsOf e/\∃m y,DataW.trod enc P W 0 (λ_=>true) true m e l=some y) /\
    els.flatten.length=k*P.cellsOf e/\(∀i v,els.flatten[i]?=some v->W.cell? (a.add i)=some v):=by
   intro k
   induction k with
   |zero=>intro _;exact⟨[],rfl,by simp,by simp,by simp⟩
   |succ k ih=>
    intro hk;obtain⟨els,h1,h2,h3,h4⟩:=ih (by omega);obtain⟨l,h5,y,h6⟩:=each k (by omega);obtain⟨_,h7,h8⟩:=World.cells?_some h5;refine⟨els++[l],by simp[h1],λz hz=>?_,?_,λi v hv=>?_⟩
    .grind
    .grind
    .rw[List.flatten_append] at hv;by_cases hi:i<els.flatten.length
     .grind
     .rw[agj (by omega),h3] at hv;have hv:l[i-k*P.cellsOf e]?=some v:=(by simpa using hv);have hlt:=(List.getElem?_eq_some_iff.1 hv).1;have h9:=h8 (i-k*P.cellsOf e) (by omega);rw[add_add,hv] at h9;rw[<-h9];congr 2;omega
  obtain⟨els,h1,h2,_,h4⟩:=built len (abi _);refine⟨a,len,cap,els,rfl,hl,hm,h1,h2,h4,λhc=>?_⟩;have first:∃l,W.cells? 0 a (P.cellsOf e)=some l:=by
   by_cases h0:len=0
   .have h5:=hr 0 (by omega)
    grind [List.getElem?_eq_getElem,Option.bind_eq_some_iff,Addr.add]
   grind [Addr.add]
  obtain⟨l,h5⟩:=first
  obtain⟨_,h6,h7⟩:=World.cells?_some h5
  grind [List.getElem?_eq_getElem,Addr.add]
end Go.Ago
