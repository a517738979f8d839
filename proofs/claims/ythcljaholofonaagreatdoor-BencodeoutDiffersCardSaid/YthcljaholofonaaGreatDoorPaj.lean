
import Derived.Test.YthcljaholofonaaGreatDoorPai
set_option linter.all false
namespace Go.Sh
open Go Go.Ago Go.Proofs
variable {N N':List ao}{root:Int}{x x':ao}
def adv {y:ao}(h:ji y=some true)(hk:y.kind=5):u8 y.text=true:=by
 unfold ji at h;rw[AT (by omega),AT (by omega),AT (by omega)] at h;split at h
 .unfold KW at h;rw[hk,AT (by decide),AT (by decide),AT (by decide),By rfl] at h;unfold u8;cases hc:rY y.text (y.text.size+1) 0 with
  |none=>rfl
  |some p=>grind [Uv]
 grind
def EO (N:List ao)(x:ao)(r:ε):Prop:=r.Perm (iota x.items.length)/\r.Pairwise λa b=>Lib.compareBytes (HV N (nth x.keys a)).data.toList (HV N (nth x.keys b)).data.toList<0
def EO.uniq {r r':ε}(h:EO N x r)(h':EO N x r'):r=r':=
 Io (λa b p q=>Oy _ (Vr p q)) (h.1.trans h'.1.symm) h.2 h'.2
mutual
def TO (N:List ao)(u:Int)(P:ε):DT->Prop
 |.int t=>P=[u]/\∃x,gt N u=some x/\x.kind=2/\x.text=t
 |.str t=>P=[u]/\∃x,gt N u=some x/\x.kind=(if u8 t then 5 else 6)/\x.text=t
 |.list l=>∃x Q,P=u::Q/\gt N u=some x/\x.kind=9/\Y7 N x.items Q l
 |.map l=>∃x Q r,P=u::Q/\gt N u=some x/\x.kind=10/\x.ord=false/\EO N x r/\(kL l).Pairwise (λa b=>LC a b=true)/\Vt N (r.map (nth x.keys)) (r.map (nth x.items)) Q l
def Y7 (N:List ao)(is P:ε):MY->Prop
 |.nil=>is=[]/\P=[]
 |.cons v l=>∃a r P1 P2,is=a::r/\P=P1++P2/\TO N a P1 v/\Y7 N r P2 l
def Vt (N:List ao)(ks is P:ε):Js->Prop
 |.nil=>ks=[]/\is=[]/\P=[]
 |.cons t v l=>∃k kr a ir P1 P2,ks=k::kr/\is=a::ir/\P=k::(P1++P2)/\(∃y,gt N k=some y/\y.kind=5/\y.text=t)/\TO N a P1 v/\Vt N kr ir P2 l
end
def TM:∀{a b:List UInt8},Lib.compareBytes a b<0->Op.bytesLess a b=true
 |[],[],h=>by simp[Lib.compareBytes] at h
 |[],_::_,h=>by simp[Op.bytesLess]
 |_::_,[],h=>by simp[Lib.compareBytes] at h
 |a::s,b::t,h=>by
  unfold Op.bytesLess;simp only[apl,ab8,ac5,beq_iff_eq];rcases D8.1 h with c|⟨c,d⟩
  .grind [UInt8.lt_iff_toNat_lt]
  .exact .inr ⟨UInt8.toNat_inj.1 c,TM d⟩
theorem am2 {a b:ζ}(h:Lib.compareBytes a.data.toList b.data.toList<0):LC a b=true:=by
 unfold LC;rw[ByteArray.toList_eq,ByteArray.toList_eq];exact TM h
section
variable {f:Nat}{w:Int->Nat}
abbrev JV (N:List ao)(f:Nat)(w:Int->Nat)(a:Int):Prop:=∀c,∃bs c',PR N f a c bs c'/\bs.length<=w a/\(c'=0->c=0/\∃P v,TO N a P v/\bs=enc v)
def aiR:∀{l:ε},(∀a∈l,JV N f w a)->∀c,∃bs c',Seq (PR N f) l c bs c'/\bs.length<=(l.map w).sum/\(c'=0->c=0/\∃P t,Y7 N l P t/\bs=GK t)
 |[],_,c=>⟨[],c,⟨rfl,rfl⟩,aea _,λh=>⟨h,[],.nil,⟨rfl,rfl⟩,rfl⟩⟩
 |a::l,h,c=>by
  obtain⟨b1,c1,h1,h3,i1⟩:=h a OF c;obtain⟨b2,c2,h4,h6,i2⟩:=aiR (l:=l) (λa ha=>h a (IN _ ha)) c1;refine⟨b1++b2,c2,⟨b1,c1,b2,h1,h4,rfl⟩,?_,λe=>?_⟩
  .grind
  .obtain⟨e1,P2,t,j1,j2⟩:=i2 e;obtain⟨e2,P1,v,j3,j4⟩:=i1 e1;exact⟨e2,P1++P2,.cons v t,⟨a,l,P1,P2,rfl,rfl,j3,j1⟩,by rw[GK,j2,j4]⟩
def adw {ks is:ε}(hs:∀k∈ks,(HV N k).size<=101)(h5:∀k∈ks,YL N k)(hl:is.length=ks.length)(h:∀a∈is,JV N f w a):∀{r:ε},(∀p∈r,0<=p/\p<(ks.length:Int)) ->
  ∀c,∃bs c',TE (ks.map (HV N)) is (PR N f) r c bs c'/\bs.length<=(r.map λp=>105+w (nth is p)).sum/\(c'=0->c=0/\∃P t,Vt N (r.map (nth ks)) (r.map (nth is)) P t/\kL t=r.map (λp=>HV N (nth ks p))/\bs=Jb t)
 |[],_,c=>⟨[],c,⟨rfl,rfl⟩,aea _,λh=>⟨h,[],.nil,⟨rfl,rfl,rfl⟩,rfl,rfl⟩⟩
 |p::r,hr,c=>by
  obtain⟨p1,p2⟩:=hr p OF;obtain⟨k,hk⟩:=MX (ts:=ks) p1 p2;obtain⟨a,ha⟩:=MX (ts:=is) p1 (by omega);obtain⟨y,hy,ky⟩:=h5 k (aE hk);have ht:gt (ks.map (HV N)) p=some (HV N k):=by
   grind [ax,gt]
  obtain⟨b1,c1,h1,h3,i1⟩:=h a (aE ha) c;obtain⟨b2,c2,h4,h6,i2⟩:=adw hs h5 hl h (r:=r) (λp hp=>hr p (IN _ hp)) c1;have h7:=Lo (hs k (aE hk));have h8:nth is p=a:=by grind [nth]
  have h9:nth ks p=k:=by grind [nth]
  refine⟨zd (HV N k)++(b1++b2),c2,⟨HV N k,a,b1,c1,b2,ht,ha,h1,h4,rfl⟩,?_,λe=>?_⟩
  .grind
  .obtain⟨e1,P2,t,j1,j5,j2⟩:=i2 e;obtain⟨e2,P1,v,j3,j4⟩:=i1 e1;refine⟨e2,k::(P1++P2),.cons (HV N k) v t,?_,?_,?_⟩
   .rw[adZ,adZ,h8,h9];exact⟨k,_,a,_,P1,P2,rfl,rfl,rfl,⟨y,hy,ky,(BT hy).symm⟩,j3,j1⟩
   .rw[kL,j5,adZ,h9]
   .rw[Jb,j2,j4]
end
def ao2 (g:GV N root)(d:Vd N root)(fw:mU N)(hc:Vp N root)(ht:Y6 N root){H:Int->Nat}(hH:∀u,qS N root u->∀v,IE N u v->H v<H u):∀f u,qS N root u->IR N.length u->H u<f->JV N f (λu=>10000*tR N u) u
 |0,u,hu,hir,hf=>by omega
 |f+1,u,hu,hir,hf=>by
  intro c;show ∃bs c',PR N (f+1) u c bs c'/\bs.length<=10000*tR N u/\(c'=0->c=0/\∃P v,TO N u P v/\bs=enc v);obtain⟨x,hx⟩:=mK (l:=N) rfl hir;have hxm:=aE hx;obtain⟨hxi,hxk⟩:=fw.map x hxm;have hti:=adn hc ht hu hx;by_cases hc0:c≠0
  .exact⟨[],c,⟨x,hx,.inl ⟨hc0,rfl,rfl⟩⟩,aea _,λe=>absurd e hc0⟩
  have hc0:c=0:=by omega
  subst hc0;have bad:∀{w:Int},Y5 N x=some w->w≠0->∃bs c',PR N (f+1) u 0 bs c'/\bs.length<=10000*tR N u/\(c'=0->(0:Int)=0/\∃P v,TO N u P v/\bs=enc v):=λ{w} h1 h3=>
   ⟨[],w,⟨x,hx,.inr ⟨rfl,w,h1,.inl ⟨h3,rfl,rfl⟩⟩⟩,aea _,λe=>absurd e h3⟩
  have hsz:=fw.txt x hxm;have items:∀a∈x.items,JV N f (λu=>10000*tR N u) a:=λa ha=>by
   have e:IE N u a:=⟨x,hx,ha⟩;exact ao2 g d fw hc ht hH f a (hu.step e) ((g.ix x hxm).2 a ha) (by grind)
  have str:∀{k:Int},x.kind=k->k=(if u8 x.text then 5 else 6)->TO N u [u] (.str x.text):=λh1 h2=>⟨rfl,x,hx,by grind,rfl⟩;by_cases k2:x.kind=2
  .have w1:Y5 N x=some 0:=by unfold Y5;grind
   refine⟨105::(x.text.data.toList++[101]),0,⟨x,hx,.inr ⟨rfl,0,w1,.inr ⟨rfl,.inl ⟨k2,rfl,rfl⟩⟩⟩⟩,?_,λ_=>⟨rfl,[u],.int x.text,⟨rfl,x,hx,k2,rfl⟩,rfl⟩⟩;have:x.text.data.toList.length=x.text.size:=rfl
   grind
  by_cases k5:x.kind=5
  .have w1:Y5 N x=some 0:=by grind [Y5]
   refine⟨zd x.text,0,⟨x,hx,.inr ⟨rfl,0,w1,.inr ⟨rfl,.inr (.inl ⟨.inl k5,rfl,rfl⟩)⟩⟩⟩,?_,λ_=>⟨rfl,[u],.str x.text,str k5 ?_,rfl⟩⟩
   .grind [Lo]
   .rw[adv (g.fm x hxm) k5];rfl
  by_cases k9:x.kind=9
  .have w1:Y5 N x=some 0:=by grind [Y5]
   obtain⟨b1,c',h1,h3,i1⟩:=aiR items 0;refine⟨108::(b1++[101]),c',⟨x,hx,.inr ⟨rfl,0,w1,.inr ⟨rfl,.inr (.inr (.inl ⟨k9,b1,h1,rfl⟩))⟩⟩⟩,?_,λe=>?_⟩
   .rw[Oz] at h3
    grind
   .obtain⟨_,P,t,j1,j2⟩:=i1 e;exact⟨rfl,u::P,.list t,⟨x,P,rfl,hx,k9,j1⟩,by rw[enc,j2]⟩
  have w1:Y5 N x=Ox N x:=by grind [Y5]
  by_cases k6:x.kind=6
  .have e1:Ox N x=some (if u8 x.text then 11 else 0):=by unfold Ox;grind
   cases hu8:u8 x.text with
   |true=>
    grind
   |false=>
    rw[hu8] at e1;refine⟨zd x.text,0,⟨x,hx,.inr ⟨rfl,0,w1.trans e1,.inr ⟨rfl,.inr (.inl ⟨.inr k6,rfl,rfl⟩)⟩⟩⟩,?_,λ_=>⟨rfl,[u],.str x.text,str k6 (by grind),rfl⟩⟩
    grind [Lo]
  by_cases k10:x.kind=10
  rotate_left
  .grind [Ox]
  cases ho:x.ord with
  |true=>grind [Ox]
  |false=>
  have e1:Ox N x=Ow N x.keys:=by grind [Ox]
  have mk:=g.Lj hxm k10;have kin:∀k∈x.keys,∃y,gt N k=some y:=λk hk=>mK (l:=N) rfl ((g.ix x hxm).1 k hk);rcases Q0 kin with⟨q1,q2⟩|⟨q1,q2⟩
  rotate_left
  .grind
  have tlen:(x.keys.map (HV N)).length=x.items.length:=by grind
  have hsm:=fw.sm d x hxm k10;obtain⟨r,s1,s2,s3⟩:=amZ (ts:=x.keys.map (HV N)) (by omega) (TH g hxm q1);rw[tlen] at s2;have s4:∀p∈r,0<=p/\p<(x.keys.length:Int):=λp hp=>by have:=s1.1 p hp;grind
  obtain⟨b1,c',h1,h3,i1⟩:=adw (λk hk=>by
    obtain⟨y,hy⟩:=kin k hk;rw[BT hy];exact fw.txt y (aE hy)) q1 mk.symm items s4 0
  refine⟨100::(b1++[101]),c',⟨x,hx,.inr ⟨rfl,0,(w1.trans e1).trans q2,.inr ⟨rfl,.inr (.inr (.inr ⟨k10,_,r,b1,ao0 kin,tlen.symm,s1,h1,rfl⟩))⟩⟩⟩,?_,λe=>?_⟩
  .have hsum:(r.map λp=>105+10000*tR N (nth x.items p)).sum=105*x.items.length+10000*(x.items.map (tR N)).sum:=by
    rw[(s2.map _).sum_nat,GH (ψ:=λp=>105+10000*tR N p),sum_add 105 (w:=λp=>10000*tR N p),Oz]
   grind
  .obtain⟨_,P,t,j1,j3,j2⟩:=i1 e;have at':∀{a:Int},a∈r->gt (x.keys.map (HV N)) a=some (HV N (nth x.keys a)):=λ{a} ha=>by
    obtain⟨k,hk⟩:=MX (ts:=x.keys) (s4 a ha).1 (s4 a ha).2;obtain⟨h5,h6⟩:=ax hk
    grind [nth,gt]
   have hp:r.Pairwise λa b=>Lib.compareBytes (HV N (nth x.keys a)).data.toList (HV N (nth x.keys b)).data.toList<0:=s3.imp_of_mem λ{a b} ha hb h=>by
    grind [cvT]
   refine⟨rfl,u::P,.map t,⟨x,P,r,rfl,hx,k10,ho,⟨s2,hp⟩,?_,j1⟩,by rw[enc,j2]⟩
   grind [am2]
end Go.Sh
namespace Go.Sh
open Go Go.Ago Go.Proofs
variable {N N':List ao}{root:Int}{x x':ao}
structure TG (N:List ao) (root:Int):Prop where
 g:GV N root
 d:Vd N root
 one:∀v,(root::N.flatMap refs).count v<=1
 nc:∀u v,Edge N u v->¬ow N v u
def ao3 (g:GV N root)(d:Vd N root)(hc:Vp N root)(ht:Y6 N root):TG N root:=by
 refine⟨g,d,λv=>?_,λu v e r=>?_⟩
 .by_cases k:KN N v
  .have:=d.one v k;omega
  .have h0:(N.flatMap ao.keys).count v=0:=List.count_eq_zero.2 λh=>by
    obtain⟨x,hx,hv⟩:=List.mem_flatMap.1 h;exact k (.key hx hv)
   have h1:(root::N.flatMap ao.items).count v<=1:=List.nodup_iff_count.1 ht v;have h2:∀X:List ao,(X.flatMap refs).count v=(X.flatMap ao.keys).count v+(X.flatMap ao.items).count v:=λX=>by
    induction X with
    |nil=>rfl
    |cons x X ih=>
     grind [refs]
   grind
 .by_cases k:KN N v
  .obtain⟨H,_,hH⟩:=d.Yt;have h1:=hH u v k e;have h2:=(d.down hH k r).2;omega
  .have ku:¬KN N u:=λh=>k (h.step e);obtain⟨x,hx,hv⟩:=id e;have hi:IE N u v:=⟨x,hx,hv.resolve_left λh=>k (.key (aE hx) h)⟩;have h1:=(g.Yr u (kF hx)).way.resolve_right ku;exact hc.no (h1.step hi) (r.way.resolve_right ku) hi
def TG.uniq (t:TG N root){w p q:Int}(e1:Edge N p w)(e2:Edge N q w):p=q:=by
 obtain⟨x,_,h2,h3⟩:=HO e1;have h4:=Jp h2 h3;have h5:=t.one w
 grind [refs,Oo]
def TG.apart (t:TG N root){i c c':Int}(e:Edge N i c)(e':Edge N i c')(hne:c≠c'){w:Int}(h:ow N c w)(h':ow N c' w):False:=by
 induction h with
 |refl=>
  rcases h'.last with q|⟨p,r,q⟩
  .grind
  .obtain rfl:=t.uniq q e;exact t.nc _ _ e' r
 |step r ed ih=>
  rcases h'.last with q|⟨p',r',q⟩
  .subst q;obtain rfl:=t.uniq ed e';exact t.nc _ _ e r
  .have:=t.uniq q ed
   grind
def TG.Vu (t:TG N root)(hx:x∈N):(refs x).Nodup:=List.nodup_iff_count.2 λv=>by
 have h1:=Am (u:=v) hx;have h2:=t.one v
 grind
structure Q8 (N:List ao) (cs P:ε):Prop where
 up:∀w∈P,∃a∈cs,ow N a w
 nd:P.Nodup
 cl:∀w∈P,∀y,Edge N w y->y∈P
 has:∀a∈cs,a∈P
theorem Q8.app {c1 c2 P1 P2:ε}(b1:Q8 N c1 P1)(b2:Q8 N c2 P2)(h:∀a∈c1,∀b∈c2,∀w,ow N a w->¬ow N b w):Q8 N (c1++c2) (P1++P2):=by
 refine⟨λw hw=>?_,List.nodup_append.2 ⟨b1.nd,b2.nd,λa ha b hb e=>?_⟩,λw hw y e=>?_,λa ha=>?_⟩
 .rcases List.mem_append.1 hw with q|q
  .obtain⟨a,h1,h2⟩:=b1.up w q;grind
  .obtain⟨a,h1,h2⟩:=b2.up w q;grind
 .subst e;obtain⟨c,h1,h2⟩:=b1.up a ha;obtain⟨c',h3,h4⟩:=b2.up a hb
  grind
 .rcases List.mem_append.1 hw with q|q
  .exact aeo _ (b1.cl w q y e)
  .exact adr _ (b2.cl w q y e)
 .rcases List.mem_append.1 ha with q|q
  .exact aeo _ (b1.has a q)
  .exact adr _ (b2.has a q)
def Q8.ag1 {c1 c2 P:ε}(b:Q8 N c1 P)(h:∀a,a∈c1↔a∈c2):Q8 N c2 P:=
 ⟨λw hw=>let ⟨a,h1,h2⟩:=b.up w hw;⟨a,(h a).1 h1,h2⟩,b.nd,b.cl,λa ha=>b.has a ((h a).2 ha)⟩
def Q8.node (t:TG N root){u:Int}{cs P:ε}(b:Q8 N cs P)(h:∀a,a∈cs↔Edge N u a):Q8 N [u] (u::P):=by
 refine⟨λw hw=>⟨u,List.mem_singleton.2 rfl,?_⟩,List.nodup_cons.2 ⟨λhu=>?_,b.nd⟩,λw hw y e=>?_,λa ha=>?_⟩
 .rcases List.mem_cons.1 hw with rfl|hw
  .exact .refl
  .obtain⟨a,h1,h2⟩:=b.up w hw;exact (ow.one ((h a).1 h1)).trans h2
 .obtain⟨a,h1,h2⟩:=b.up u hu;exact t.nc u a ((h a).1 h1) h2
 .rcases List.mem_cons.1 hw with rfl|hw
  .exact IN _ (b.has y ((h y).2 e))
  .exact IN _ (b.cl w hw y e)
 grind
def Q8.leaf (t:TG N root){u:Int}(h:∀a,¬Edge N u a):Q8 N [u] [u]:=
 Q8.node t (cs:=[]) (P:=[]) ⟨λw hw=>(by cases hw),aoO,λw hw=>(by cases hw),λa ha=>(by cases ha)⟩ λa=>⟨λh=>(by cases h),λe=>(h a e).elim⟩
def GL {y:ao}(h:ji y=some true)(h1:y.kind≠9)(h2:y.kind≠10)(h3:y.kind≠11):y.ord=false/\y.keys=[]/\y.items=[]:=by
 grind [ji]
theorem MZ {y:ao}(h:ji y=some true)(h1:y.kind=9):y.text=ofBytes []/\y.ord=false/\y.keys=[]:=by
 unfold ji at h;rw[By h1] at h;simp only[adW,ac5,apy,ab8] at h
 grind [A8,List.length_eq_zero_iff]
def adx {y:ao}(h:ji y=some true)(h1:y.kind=10):y.text=ofBytes []:=by
 unfold ji at h;rw[AT (by omega),By h1] at h;simp only[adW,ac5,ab8] at h;exact A8 h.1
def TG.noE (t:TG N root){u:Int}(hx:gt N u=some x)(h1:x.kind≠9)(h2:x.kind≠10)(h3:x.kind≠11):∀a,¬Edge N u a:=λa ⟨y,hy,ha⟩=>by
 rw[hx] at hy;cases hy;obtain⟨_,e1,e2⟩:=GL (t.g.fm x (aE hx)) h1 h2 h3
 grind
def EO.keys (m:x.keys.length=x.items.length){r:ε}(h:EO N x r):(r.map (nth x.keys)).Perm x.keys/\(r.map (nth x.items)).Perm x.items:=by
 have e:∀l:ε,(iota l.length).map (nth l)=l:=λl=>by
  have:=GH (ψ:=λa:Int=>a) l
  simp_all
 refine⟨?_,?_⟩
 .have:=h.1.map (nth x.keys)
  grind
 .have:=h.1.map (nth x.items)
  grind
def Ls {t:ζ}{k:Int}(h:k=(if u8 t then 5 else 6)):k≠9/\k≠10/\k≠11:=by
 grind
mutual
def TN (t:TG N root):∀(v:DT) (u:Int) (P:ε),TO N u P v->Q8 N [u] P
 |.int s,u,P,⟨e,x,hx,hk,_⟩=>by subst e;exact .leaf t (t.noE hx (by omega) (by omega) (by omega))
 |.str s,u,P,⟨e,x,hx,hk,_⟩=>by
  subst e;obtain⟨h1,h2,h3⟩:=Ls hk;exact .leaf t (t.noE hx h1 h2 h3)
 |.list l,u,P,⟨x,Q,e,hx,hk,h⟩=>by
  subst e;have hxm:=aE hx;have he:∀a,a∈x.items↔Edge N u a:=λa=>by
   refine⟨λh=>⟨x,hx,.inr h⟩,λ⟨y,hy,h⟩=>?_⟩;rw[hx] at hy;cases hy;rw[(MZ (t.g.fm x hxm) hk).2.2] at h
   grind
  have nd:x.items.Nodup:=by
   have:=t.Vu hxm
   grind [refs,List.nodup_append]
  exact .node t (Vv t l u x.items Q (λa ha=>(he a).1 ha) nd h) he
 |.map l,u,P,⟨x,Q,r,e,hx,hk,_,eo,_,h⟩=>by
  subst e;have hxm:=aE hx;obtain⟨p1,p2⟩:=eo.keys (t.g.Lj hxm hk);have he:∀a,a∈r.map (nth x.keys)++r.map (nth x.items)↔Edge N u a:=λa=>by
   rw[amp,p1.mem_iff,p2.mem_iff];refine⟨λh=>⟨x,hx,h⟩,λ⟨y,hy,h⟩=>?_⟩
   grind
  have nd:(r.map (nth x.keys)++r.map (nth x.items)).Nodup:=(p1.append p2).nodup_iff.2 (t.Vu hxm);exact .node t (Vw t l u _ _ Q (λa ha=>(he a).1 ha) nd h) he
def Vv (t:TG N root):∀(l:MY) (i:Int) (cs P:ε),(∀a∈cs,Edge N i a)->cs.Nodup->Y7 N cs P l->Q8 N cs P
 |.nil,i,cs,P,he,nd,⟨e1,e2⟩=>by
  subst e1;subst e2;exact⟨λw hw=>(by cases hw),aoO,λw hw=>(by cases hw),λa ha=>(by cases ha)⟩
 |.cons v l,i,cs,P,he,nd,⟨a,r,P1,P2,e1,e2,h1,h2⟩=>by
  subst e1;subst e2;obtain⟨n1,n2⟩:=List.nodup_cons.1 nd;refine (TN t v a P1 h1).app (Vv t l i r P2 (λb hb=>he b (IN _ hb)) n2 h2) λc hc b hb w r1 r2=>?_;obtain rfl:=List.mem_singleton.1 hc;exact t.apart (he c OF) (he b (IN _ hb)) (λe=>n1 (e▸hb)) r1 r2
def Vw (t:TG N root):∀(l:Js) (i:Int) (ks is P:ε),(∀a∈ks++is,Edge N i a)->(ks++is).Nodup->Vt N ks is P l->Q8 N (ks++is) P
 |.nil,i,ks,is,P,he,nd,⟨e1,e2,e3⟩=>by
  subst e1;subst e2;subst e3;exact⟨λw hw=>(by cases hw),aoO,λw hw=>(by cases hw),λa ha=>(by cases ha)⟩
 |.cons s v l,i,ks,is,P,he,nd,⟨k,kr,a,ir,P1,P2,e1,e2,e3,⟨y,hy,ky,_⟩,h1,h2⟩=>by
  subst e1;subst e2;subst e3;have hp:(k::kr++a::ir).Perm ([k]++([a]++(kr++ir))):=by
   simp_all
  have nd':=hp.nodup_iff.1 nd;have he':∀b∈[k]++([a]++(kr++ir)),Edge N i b:=λb hb=>he b (hp.mem_iff.2 hb);simp only[ad0,aiO,apZ,apt,not_or] at nd' he';obtain⟨⟨n1,n2⟩,n3,n4⟩:=nd';have bk:Q8 N [k] [k]:=.leaf t (t.noE hy (by omega) (by omega) (by omega));have b3:=Vw t l i kr ir P2 (λb hb=>he' b (.inr (.inr hb))) n4 h2;have b2:=(TN t v a P1 h1).app b3 λc hc b hb w r1 r2=>by
   obtain rfl:=List.mem_singleton.1 hc;exact t.apart (he' c (.inr (.inl rfl))) (he' b (.inr (.inr hb))) (λe=>n3 (e▸hb)) r1 r2
  refine (bk.app b2 λc hc b hb w r1 r2=>?_).ag1 λb=>hp.mem_iff.symm;obtain rfl:=List.mem_singleton.1 hc;refine t.apart (he' c (.inl rfl)) (he' b (.inr ?_)) (λe=>?_) r1 r2
  .grind
  grind
end
def TG.perm (t:TG N root){v:DT}{P:ε}(h:TO N root P v):P.Perm (iota N.length):=by
 have b:=TN t v root P h;refine (aqM b.nd (BS _)).2 λw=>?_;have all:∀w,ow N root w->w∈P:=λw r=>by
  induction r with
  |refl=>exact b.has _ (List.mem_singleton.2 rfl)
  |step _ e ih=>exact b.cl _ ih _ e
 refine⟨λhw=>?_,λhw=>all w (t.g.Yr w (rR hw))⟩;obtain⟨a,ha,r⟩:=b.up w hw;obtain rfl:=List.mem_singleton.1 ha;have hir:=r.ir t.g.ix t.g.rt;unfold IR at hir;unfold iota;exact List.mem_map.2 ⟨w.toNat,List.mem_range.2 (by omega),by omega⟩
mutual
def HW:∀(v:DT) (u:Int) (P:ε),TO N u P v->P.length=ER v
 |.int s,u,P,⟨e,_⟩=>by rw[e];rfl
 |.str s,u,P,⟨e,_⟩=>by rw[e];rfl
 |.list l,u,P,⟨x,Q,e,_,_,h⟩=>by rw[e,acg,Vx l _ Q h,ER];omega
 |.map l,u,P,⟨x,Q,r,e,_,_,_,_,_,h⟩=>by rw[e,acg,Vy l _ _ Q h,ER];omega
def Vx:∀(l:MY) (cs P:ε),Y7 N cs P l->P.length=EE l
 |.nil,cs,P,⟨_,e⟩=>by rw[e];rfl
 |.cons v l,cs,P,⟨a,r,P1,P2,_,e,h1,h2⟩=>by rw[e,acm,HW v a P1 h1,Vx l r P2 h2,EE]
def Vy:∀(l:Js) (ks is P:ε),Vt N ks is P l->P.length=CG l
 |.nil,ks,is,P,⟨_,_,e⟩=>by rw[e];rfl
 |.cons s v l,ks,is,P,⟨k,kr,a,ir,P1,P2,_,_,e,_,h1,h2⟩=>by rw[e,acg,acm,HW v a P1 h1,Vy l kr ir P2 h2,CG];omega
end
def Vz:∀(v:DT) (u:Int) (P:ε),TO N u P v->P[0]?=some u
 |.int s,u,P,⟨e,_⟩=>by grind
 |.str s,u,P,⟨e,_⟩=>by grind
 |.list l,u,P,⟨x,Q,e,_,_,h⟩=>by grind
 |.map l,u,P,⟨x,Q,r,e,_,_,_,_,_,h⟩=>by grind
def MN (N:List ao)(A:Int->Int)(w:Int)(y:ao):Prop:=∃x,gt N w=some x/\y.kind=x.kind/\y.text=x.text/\y.ord=x.ord /\
 ((x.kind≠10/\y.keys=[]/\y.items=x.items.map A)\/(x.kind=10/\∃l,EO N x l/\y.keys=(l.map (nth x.keys)).map A/\y.items=(l.map (nth x.items)).map A))
abbrev B7 (A:Int->Int)(P:ε)(b:Nat):Prop:=∀(j:Nat) w,P[j]?=some w->A w=((b+j:Nat):Int)
def B7.left {A:Int->Int}{P1 P2:ε}{b:Nat}(h:B7 A (P1++P2) b):B7 A P1 b:=λj w hj=>h j w (by grind)
def B7.right {A:Int->Int}{P1 P2:ε}{b:Nat}(h:B7 A (P1++P2) b):B7 A P2 (b+P1.length):=λj w hj=>by
 have:=h (P1.length+j) w (by rw[anT (aqU _ _),Nat.add_sub_cancel_left];exact hj)
 grind
def B7.tail {A:Int->Int}{u:Int}{P:ε}{b:Nat}(h:B7 A (u::P) b):B7 A P (b+1):=λj w hj=>by
 have:=h (j+1) w (by grind)
 grind
theorem HX {y:ao}{k:Int}{t:ζ}{ks is:ε}(h1:y.kind=k)(h2:y.text=t)(h3:y.ord=false)(h4:y.keys=ks)(h5:y.items=is):y=⟨k,t,false,ks,is⟩:=by
 cases y;grind
abbrev ES (N:List ao)(A:Int->Int)(P:ε)(X:List ao):Prop:=∀(j:Nat) w y,P[j]?=some w->MN N A w y->X[j]?=some y
theorem ES.app {A:Int->Int}{P1 P2:ε}{X Y:List ao}(h1:ES N A P1 X)(h2:ES N A P2 Y)(hl:X.length=P1.length):ES N A (P1++P2) (X++Y):=λj w y hj m=>by
 grind
theorem ES.cons {A:Int->Int}{u:Int}{z:ao}{P:ε}{X:List ao}(h1:∀y,MN N A u y->y=z)(h2:ES N A P X):ES N A (u::P) (z::X):=λj w y hj m=>by
 grind
def TG.mnS (t:TG N root){A:Int->Int}{u:Int}{y:ao}(hx:gt N u=some x)(h1:x.kind≠9)(h2:x.kind≠10)(h3:x.kind≠11)(m:MN N A u y):y=⟨x.kind,x.text,false,[],[]⟩:=by
 obtain⟨x',hx',e1,e2,e3,e4⟩:=m;rw[hx] at hx';cases hx';obtain⟨q1,q2,q3⟩:=GL (t.g.fm x (aE hx)) h1 h2 h3
 grind [HX,absurd]
mutual
def TQ (t:TG N root){A:Int->Int}:∀(v:DT) (u:Int) (P:ε) (b:Nat),TO N u P v->B7 A P b->ES N A P (FR b v)
 |.int s,u,P,b,⟨e,x,hx,hk,ht⟩,p=>by
  subst e;rw[FR];exact .cons (λy m=>by rw[t.mnS hx (by omega) (by omega) (by omega) m,hk,ht]) λj w y hj=>by grind
 |.str s,u,P,b,⟨e,x,hx,hk,ht⟩,p=>by
  subst e;obtain⟨h1,h2,h3⟩:=Ls hk;rw[FR];exact .cons (λy m=>by rw[t.mnS hx h1 h2 h3 m,hk,ht]) λj w y hj=>by grind
 |.list l,u,P,b,⟨x,Q,e,hx,hk,h⟩,p=>by
  subst e;obtain⟨h1,h2⟩:=VA t l x.items Q (b+1) h p.tail;rw[FR];refine .cons (λy m=>?_) h1;obtain⟨x',hx',e1,e2,e3,e4⟩:=m;rw[hx] at hx';cases hx';obtain⟨q1,q2,q3⟩:=MZ (t.g.fm x (aE hx)) hk
  grind [HX]
 |.map l,u,P,b,⟨x,Q,r,e,hx,hk,ho,eo,_,h⟩,p=>by
  subst e;obtain⟨h1,h2,h3⟩:=VB t l _ _ Q (b+1) h p.tail;rw[FR];refine .cons (λy m=>?_) h1;obtain⟨x',hx',e1,e2,e3,e4⟩:=m;rw[hx] at hx';cases hx';have q1:=adx (t.g.fm x (aE hx)) hk;rcases e4 with⟨e4,_⟩|⟨_,r',eo',e4,e5⟩
  .grind
  .obtain rfl:=eo.uniq eo'
   grind [HX]
def VA (t:TG N root){A:Int->Int}:∀(l:MY) (cs P:ε) (b:Nat),Y7 N cs P l->B7 A P b->ES N A P (Jc b l)/\cs.map A=OA b l
 |.nil,cs,P,b,⟨e1,e2⟩,p=>by
  subst e1;subst e2;exact⟨λj w y hj=>by grind,rfl⟩
 |.cons v l,cs,P,b,⟨a,r,P1,P2,e1,e2,h1,h2⟩,p=>by
  subst e1;subst e2;have i1:=TQ t v a P1 b h1 p.left;have hl:=HW v a P1 h1;have p2:=p.right;rw[hl] at p2;obtain⟨i2,i3⟩:=VA t l r P2 _ h2 p2;rw[Jc,OA];refine⟨i1.app i2 (by rw[zN,hl]),?_⟩;rw[adZ,i3,p.left 0 a (Vz v a P1 h1)];rfl
def VB (t:TG N root){A:Int->Int}:∀(l:Js) (ks is P:ε) (b:Nat),Vt N ks is P l->B7 A P b->ES N A P (Jd b l)/\ks.map A=AN b l/\is.map A=zM b l
 |.nil,ks,is,P,b,⟨e1,e2,e3⟩,p=>by
  subst e1;subst e2;subst e3;exact⟨λj w y hj=>by grind,rfl,rfl⟩
 |.cons s v l,ks,is,P,b,⟨k,kr,a,ir,P1,P2,e1,e2,e3,⟨y,hy,ky,kt⟩,h1,h2⟩,p=>by
  subst e1;subst e2;subst e3;have i1:=TQ t v a P1 (b+1) h1 p.tail.left;have hl:=HW v a P1 h1;have p2:=p.tail.right;rw[hl] at p2;obtain⟨i2,i3,i4⟩:=VB t l kr ir P2 _ h2 p2;rw[Jd,AN,zM];refine⟨.cons (λz m=>by rw[t.mnS hy (by omega) (by omega) (by omega) m,ky,kt]) (i1.app i2 (by rw[zN,hl])),?_,?_⟩
  .grind
  .rw[adZ,i4,p.tail.left 0 a (Vz v a P1 h1),amh]
end
end Go.Sh
namespace Go.Sh
open Go Go.Ago Go.Proofs
variable {N N':List ao}{root:Int}{x x':ao}
def aiS:∀{a b:List UInt8},Op.bytesLess a b=true->Lib.compareBytes a b<0
 |[],[],h=>by simp[Op.bytesLess] at h
 |[],_::_,_=>by simp[Lib.compareBytes]
 |_::_,[],h=>by simp[Op.bytesLess] at h
 |a::s,b::t,h=>by
  unfold Op.bytesLess at h;simp only[apl,ab8,ac5,beq_iff_eq] at h;rw[D8];rcases h with h|⟨h,h2⟩
  .grind [UInt8.lt_iff_toNat_lt]
  .exact .inr ⟨by rw[h],aiS h2⟩
def am3 {a b:List UInt8}:Op.bytesLess a b=true↔Lib.compareBytes a b<0:=⟨aiS,TM⟩
theorem VC {a b:ζ}:LC a b=true↔Lib.compareBytes a.data.toList b.data.toList<0:=by
 unfold LC;rw[ByteArray.toList_eq,ByteArray.toList_eq];exact am3
mutual
theorem TT:∀(v w:DT) (u:Int) (P P':ε),TO N u P v->TO N u P' w->v=w
 |.int s,w,u,P,P',⟨_,x,hx,hk,ht⟩,h'=>by
  cases w with
  |int s'=>obtain⟨_,x',hx',_,ht'⟩:=h';grind
  |str s'=>obtain⟨_,x',hx',hk',_⟩:=h';grind
  |list l=>obtain⟨x',_,_,hx',hk',_⟩:=h';grind
  |map l=>obtain⟨x',_,_,_,hx',hk',_⟩:=h';grind
 |.str s,w,u,P,P',⟨_,x,hx,hk,ht⟩,h'=>by
  cases w with
  |int s'=>obtain⟨_,x',hx',hk',_⟩:=h';grind
  |str s'=>obtain⟨_,x',hx',_,ht'⟩:=h';grind
  |list l=>obtain⟨x',_,_,hx',hk',_⟩:=h';grind
  |map l=>obtain⟨x',_,_,_,hx',hk',_⟩:=h';grind
 |.list l,w,u,P,P',⟨x,Q,_,hx,hk,h⟩,h'=>by
  cases w with
  |int s'=>obtain⟨_,x',hx',hk',_⟩:=h';grind
  |str s'=>obtain⟨_,x',hx',hk',_⟩:=h';grind
  |list l'=>obtain⟨x',Q',_,hx',hk',h'⟩:=h';rw[hx] at hx';cases hx';rw[VD l l' _ _ _ h h']
  |map l=>obtain⟨x',_,_,_,hx',hk',_⟩:=h';grind
 |.map l,w,u,P,P',⟨x,Q,r,_,hx,hk,_,eo,_,h⟩,h'=>by
  cases w with
  |int s'=>obtain⟨_,x',hx',hk',_⟩:=h';grind
  |str s'=>obtain⟨_,x',hx',hk',_⟩:=h';grind
  |list l'=>obtain⟨x',Q',_,hx',hk',h'⟩:=h';grind
  |map l'=>
   obtain⟨x',Q',r',_,hx',hk',_,eo',_,h'⟩:=h';rw[hx] at hx';cases hx';obtain rfl:=eo.uniq eo';rw[VE l l' _ _ _ _ h h']
theorem VD:∀(l l':MY) (cs P P':ε),Y7 N cs P l->Y7 N cs P' l'->l=l'
 |.nil,.nil,_,_,_,_,_=>rfl
 |.nil,.cons _ _,cs,P,P',⟨e,_⟩,⟨a,r,_,_,e',_⟩=>by grind
 |.cons _ _,.nil,cs,P,P',⟨a,r,_,_,e',_⟩,⟨e,_⟩=>by grind
 |.cons v l,.cons w l',cs,P,P',⟨a,r,P1,P2,e,_,h1,h2⟩,⟨a',r',P1',P2',e',_,h1',h2'⟩=>by
  rw[e] at e';cases e';rw[TT v w a P1 P1' h1 h1',VD l l' r P2 P2' h2 h2']
theorem VE:∀(l l':Js) (ks is P P':ε),Vt N ks is P l->Vt N ks is P' l'->l=l'
 |.nil,.nil,_,_,_,_,_,_=>rfl
 |.nil,.cons _ _ _,ks,is,P,P',⟨e,_⟩,⟨k,kr,_,_,_,_,e',_⟩=>by grind
 |.cons _ _ _,.nil,ks,is,P,P',⟨k,kr,_,_,_,_,e',_⟩,⟨e,_⟩=>by grind
 |.cons s v l,.cons s' w l',ks,is,P,P',⟨k,kr,a,ir,P1,P2,e1,e2,_,⟨y,hy,_,ht⟩,h1,h2⟩,⟨k',kr',a',ir',P1',P2',e1',e2',_,⟨y',hy',_,ht'⟩,h1',h2'⟩=>by
  rw[e1] at e1';cases e1';rw[e2] at e2';cases e2';rw[hy] at hy';cases hy';rw[<-ht,<-ht',TT v w a P1 P1' h1 h1',VE l l' kr ir P2 P2' h2 h2']
end
open Classical in
def ady {u:Int}(hu:IR N.length u):1<=wt N u:=by
 unfold wt;unfold IR at hu;have h:0<(List.range N.length).countP λi:Nat=>decide (ow N u (i:Int)/\ow N (i:Int) u):=by
  rw[List.countP_pos_iff];refine⟨u.toNat,List.mem_range.2 (by omega),?_⟩;rw[show ((u.toNat:Nat):Int)=u by omega];exact ai4 ⟨.refl,.refl⟩
 omega
def TG.step (t:TG N root){f:Int->Int}(D:DF N f){u v:Int}(e:Edge N u v):f v+1<=f u:=by
 obtain⟨x,hx,_⟩:=id e;have hu:IR N.length u:=kF hx;have h1:=ady hu;have h2:=((D u hu).2 v (.one e)).2 (t.nc u v e);omega
def DF.pos {f:Int->Int}(D:DF N f){u:Int}(hu:IR N.length u):1<=f u:=by
 have h1:=ady hu;have h2:=(D u hu).1;omega
theorem aiT {y:ao}(h:ji y=some true)(hk:y.kind=2):qe y.text=true:=by
 unfold ji at h;rw[AT (by omega),AT (by omega),AT (by omega)] at h;split at h
 .unfold KW at h
  grind
 .cases h
mutual
def adz (hf:∀x∈N,ji x=some true):∀(v:DT) (u:Int) (P:ε),TO N u P v->YM v
 |.int s,u,P,⟨_,x,hx,hk,ht⟩=>by
  grind [YM,YM,aiT,aE]
 |.str s,u,P,_=>trivial
 |.list l,u,P,⟨x,Q,_,hx,hk,h⟩=>adA hf l _ Q h
 |.map l,u,P,⟨x,Q,r,_,hx,hk,ho,eo,hp,h⟩=>⟨hp,adB hf l _ _ Q h⟩
def adA (hf:∀x∈N,ji x=some true):∀(l:MY) (cs P:ε),Y7 N cs P l->okL l
 |.nil,cs,P,_=>trivial
 |.cons v l,cs,P,⟨a,r,P1,P2,_,_,h1,h2⟩=>⟨adz hf v a P1 h1,adA hf l r P2 h2⟩
def adB (hf:∀x∈N,ji x=some true):∀(l:Js) (ks is P:ε),Vt N ks is P l->okD l
 |.nil,ks,is,P,_=>trivial
 |.cons s v l,ks,is,P,⟨k,kr,a,ir,P1,P2,_,_,_,_,h1,h2⟩=>⟨adz hf v a P1 h1,adB hf l kr ir P2 h2⟩
end
end Go.Sh
namespace Go.Sh
open Go Go.Ago Go.Proofs
variable {N N':List ao}{root:Int}{x x':ao}
def OL (b n:Nat):ε:=(List.range' b n).map λi:Nat=>(i:Int)
def Lu (b m n:Nat):OL b (m+n)=OL b m++OL (b+m) n:=by
 grind [OL,List.range'_append_1]
def HY (b n:Nat):OL b (1+n)=(b:Int)::OL (b+1) n:=by
 rw[Lu];rfl
def Rl (N:List ao)(b:Nat)(X:List ao):Prop:=∀(j:Nat) y,X[j]?=some y->gt N ((b+j:Nat):Int)=some y
def Rl.head {b:Nat}{y:ao}{X:List ao}(p:Rl N b (y::X)):gt N (b:Int)=some y:=p 0 y rfl
def Rl.tail {b:Nat}{y:ao}{X:List ao}(p:Rl N b (y::X)):Rl N (b+1) X:=λj z hz=>by
 have:=p (j+1) z hz
 grind
def Rl.left {b:Nat}{X Y:List ao}(p:Rl N b (X++Y)):Rl N b X:=λj z hz=>p j z (by grind)
def Rl.right {b:Nat}{X Y:List ao}(p:Rl N b (X++Y)):Rl N (b+X.length) Y:=λj z hz=>by
 have:=p (X.length+j) z (by grind)
 grind
def Rl.self (N:List ao):Rl N 0 N:=λj y h=>by rw[ad6,tO];exact h
def VF:∀(l:Js) (ks is P:ε),Vt N ks is P l->ks.map (HV N)=kL l/\ks.length=is.length
 |.nil,ks,is,P,⟨e1,e2,_⟩=>by rw[e1,e2];exact⟨rfl,rfl⟩
 |.cons s v l,ks,is,P,⟨k,kr,a,ir,P1,P2,e1,e2,_,⟨y,hy,_,ht⟩,_,h2⟩=>by
  obtain⟨i1,i2⟩:=VF l kr ir P2 h2;rw[e1,e2,adZ,i1,kL,BT hy,ht,acg,acg,i2];exact⟨rfl,rfl⟩
def adC (l:ε):(iota l.length).map (nth l)=l:=by
 have:=GH (ψ:=λa:Int=>a) l
 simp_all
mutual
def Jt:∀(v:DT) (b:Nat),Rl N b (FR b v)->YM v->TO N (b:Int) (OL b (ER v)) v
 |.int t,b,p,h=>⟨rfl,_,p.head,rfl,rfl⟩
 |.str t,b,p,h=>⟨rfl,_,p.head,rfl,rfl⟩
 |.list l,b,p,h=>by
  rw[FR] at p;rw[ER,HY];exact⟨_,_,rfl,p.head,rfl,Q9 l (b+1) p.tail h⟩
 |.map l,b,p,h=>by
  rw[FR] at p;rw[ER,HY];have i:=Rb l (b+1) p.tail h.2;obtain⟨i1,i2⟩:=VF l _ _ _ i;have asc:=h.1;have e1:=adC (AN (b+1) l);have e2:=adC (zM (b+1) l);rw[i2] at e1;refine⟨_,_,iota (zM (b+1) l).length,rfl,p.head,rfl,rfl,⟨aqF _,?_⟩,asc,?_⟩
  .have a2:((iota (zM (b+1) l).length).map λi=>HV N (nth (AN (b+1) l) i)).Pairwise λa b=>LC a b=true:=by
    grind
   grind [VC]
  grind
def Q9:∀(l:MY) (b:Nat),Rl N b (Jc b l)->okL l->Y7 N (OA b l) (OL b (EE l)) l
 |.nil,b,p,h=>⟨rfl,rfl⟩
 |.cons v l,b,p,h=>by
  rw[Jc] at p;have p2:=p.right;rw[zN] at p2;rw[EE,Lu,OA];exact⟨_,_,_,_,rfl,rfl,Jt v b p.left h.1,Q9 l _ p2 h.2⟩
def Rb:∀(l:Js) (b:Nat),Rl N b (Jd b l)->okD l->Vt N (AN b l) (zM b l) (OL b (CG l)) l
 |.nil,b,p,h=>⟨rfl,rfl,rfl⟩
 |.cons k v l,b,p,h=>by
  rw[Jd] at p;have p2:=p.tail.right;rw[zN] at p2;rw[CG,HY,Lu,AN,zM];exact⟨_,_,_,_,_,_,rfl,rfl,rfl,⟨_,p.head,rfl,rfl⟩,Jt v (b+1) p.tail.left h.1,Rb l _ p2 h.2⟩
end
def ag2 {v w:DT}(hv:YM v)(hw:YM w)(e:FR 0 v=FR 0 w):v=w:=by
 have h1:=Jt (N:=FR 0 v) v 0 (.self _) hv;have h2:=Jt (N:=FR 0 w) w 0 (.self _) hw
 grind [TT]
end Go.Sh
namespace Go.Sh
open Go Go.Ago Go.Proofs
variable {N N':List ao}{root root':Int}{x x':ao}
def xl:ε->ε->Nat->ε
 |at',[],_=>at'
 |at',w::P,n=>xl (at'.set w.toNat (n:Int)) P (n+1)
def DU:∀(P at':ε) (n:Nat),(xl at' P n).length=at'.length
 |[],_,_=>rfl
 |w::P,at',n=>by rw[xl,DU P,anA]
theorem Lw:∀(P Q at':ε) (n:Nat),xl at' (P++Q) n=xl (xl at' P n) Q (n+P.length)
 |[],Q,at',n=>rfl
 |w::P,Q,at',n=>by
  rw[ad0,xl,Lw P Q,xl,acg]
  congr 1;omega
def OM:∀(P at':ε) (n:Nat) {u:Int},u∉P->(∀w∈P,0<=w)->gt (xl at' P n) u=gt at' u
 |[],_,_,u,_,_=>rfl
 |w::P,at',n,u,h,h0=>by
  rw[apt,not_or] at h;rw[xl,OM P _ _ h.2 λv hv=>h0 v (IN _ hv)];have hw:=h0 w OF;unfold gt
  grind
def VG:∀(P at':ε) (n j:Nat) {u:Int},P.Nodup->(∀w∈P,IR at'.length w)->P[j]?=some u->gt (xl at' P n) u=some ((n+j:Nat):Int)
 |[],_,_,_,u,_,_,h=>by simp at h
 |w::P,at',n,j,u,nd,h0,h=>by
  rw[apZ] at nd;have hw:=h0 w OF;unfold IR at hw;have h1:∀v∈P,IR at'.length v:=λv hv=>h0 v (IN _ hv);rw[xl];cases j with
  |zero=>
   rw[List.getElem?_cons_zero] at h;cases h;rw[OM P _ _ nd.1 λv hv=>(h1 v hv).1];unfold gt
   grind
  |succ j=>
   rw[aq1] at h;rw[VG P _ _ j nd.2 (λv hv=>by grind) h]
   congr 2;omega
def ag3 (t:TG N root){v:DT}{P:ε}(h:TO N root P v){at':ε}(hp:∀(j:Nat) w,P[j]?=some w->gt at' w=some (j:Int)){out:List ao}(hl:out.length=N.length)
  (ho:∀(w:Int),IR N.length w->∃(j:Nat) (y:ao),gt at' w=some (j:Int)/\out[j]?=some y/\MN N (nth at') w y):out=FR 0 v:=by
 have pm:=t.perm h;have hlen:=HW v root P h;have hn:P.length=N.length:=by rw[pm.length_eq,gN]
 have nda:=TQ t (A:=nth at') v root P 0 h λj w hj=>by
  have:=hp j w hj;unfold nth
  grind
 refine anF λj=>?_;by_cases hj:j<N.length
 .obtain⟨w,hw⟩:=cG (l:=P) (i:=j) (by omega);have hir:=rR (pm.mem_iff.1 (BY hw));obtain⟨j',y,h1,h2,h3⟩:=ho w hir;rw[hp j w hw] at h1;have e:j=j':=by
   grind
  grind
 grind [List.getElem?_eq_none,zN]
structure Rn (N:List ao) (root:Int) (bs:List UInt8) (v:DT):Prop where
 t:TG N root
 p:∃P,TO N root P v
 ok:YM v
 e:bs=enc v
 n:ER v=N.length
def am4 (t:TG N root){v:DT}{P:ε}(h:TO N root P v){bs:List UInt8}(e:bs=enc v):Rn N root bs v:=by
 refine⟨t,⟨P,h⟩,adz t.g.fm v root P h,e,?_⟩;rw[<-HW v root P h,(t.perm h).length_eq,gN]
def Rn.iff {bs bs':List UInt8}{v w:DT}(p:Rn N root bs v)(q:Rn N' root' bs' w):bs=bs'↔FR 0 v=FR 0 w:=by
 constructor
 .intro e;rw[ag0 p.ok q.ok (by rw[<-p.e,<-q.e,e])]
 .intro e;rw[p.e,q.e,ag2 p.ok q.ok e]
end Go.Sh
namespace Go.Sh
open Go Go.Ago Go.Proofs
variable {β:Type}{h h' h0:aj}{L:List bA}{N:List ao}{s:Sl}{root:Int}
def am5 (fw:mU N)(root:Int):∃n0,∀{h h0:aj} {L:List bA} {s:Sl},Z h0 h L->iK h0 s N->∀n,n0<=n ->
  Wp (eD n (s,root)) h λy h'=>(y.2=0->∃v,Rn N root y.1.data.toList v)/\Z h0 h' L:=by
 by_cases hall:gc N root=0/\Vp N root/\Y6 N root
 .obtain⟨hg,hc,ht⟩:=hall;have g:=fw.gv hg;have d:=fw.vdg hg;obtain⟨H,hH⟩:=id hc;obtain⟨bs,c,h1,h2,h3⟩:=ao2 g d fw hc ht hH (H root+1) root .refl d.rt (IT _) 0;simp only at h2;have h4:=aoZ (N:=N) root;have h5:=fw.len;refine⟨Vo+9000+(H root+1)*90+70000,λ{h h0 L s} z G n hn=>?_⟩;refine (adq fw z G hn (bs:=bs) (c:=c) (λ_ _ _=>h1) (by unfold bJ;omega)).mono λy h' hy=>?_;obtain⟨hy,z⟩:=hy;refine⟨λe=>?_,z⟩;unfold prA at hy;rw[AT (by simpa using hg),AT (by simpa using hc),AT (by simpa using ht)] at hy;by_cases c0:c=0
  .rw[AT (by simpa using c0)] at hy;by_cases hl:65536<bs.length
   .grind
   .rw[AT hl] at hy;obtain⟨_,P,v,j1,j2⟩:=h3 c0;have hb:y.1.data.toList=bs:=(by grind [ofBytes]);exact⟨v,am4 (ao3 g d hc ht) j1 (by rw[hb,j2])⟩
  grind
 .refine⟨Vo+9000+70000,λ{h h0 L s} z G n hn=>?_⟩;refine (adq fw z G (d:=0) (by omega) (bs:=[]) (c:=0) (λa b c=>absurd ⟨a,b,c⟩ hall) (aea _)).mono λy h' hy=>?_;obtain⟨hy,z⟩:=hy;refine⟨λe=>?_,z⟩;exfalso;unfold prA at hy
  grind
end Go.Sh
namespace Go.Sh
open Go Go.Ago Go.Proofs
variable {N N':List ao}{root root':Int}{x x':ao}
def PK (N:List ao)(x:ao):Prop:=x.kind=2\/x.kind=5\/x.kind=6\/x.kind=9\/(x.kind=10/\x.ord=false/\∃r,EO N x r/\∀k∈x.keys,YL N k)
mutual
def Ly (t:TG N root):∀(v:DT) (u:Int) (P:ε),TO N u P v->∀w∈P,∃x,gt N w=some x/\PK N x
 |.int s,u,P,⟨e,x,hx,hk,_⟩,w,hw=>by
  rw[e,agv] at hw;subst hw;exact⟨x,hx,.inl hk⟩
 |.str s,u,P,⟨e,x,hx,hk,_⟩,w,hw=>by
  rw[e,agv] at hw;subst hw;refine⟨x,hx,?_⟩;split at hk
  .exact .inr (.inl hk)
  .exact .inr (.inr (.inl hk))
 |.list l,u,P,⟨x,Q,e,hx,hk,h⟩,w,hw=>by
  rw[e] at hw;rcases List.mem_cons.1 hw with rfl|hw
  .exact⟨x,hx,.inr (.inr (.inr (.inl hk)))⟩
  .exact M0 t l _ Q h w hw
 |.map l,u,P,⟨x,Q,r,e,hx,hk,ho,eo,_,h⟩,w,hw=>by
  rw[e] at hw;have hxm:=aE hx;obtain⟨p1,_⟩:=eo.keys (t.g.Lj hxm hk);rcases List.mem_cons.1 hw with rfl|hw
  .exact⟨x,hx,.inr (.inr (.inr (.inr ⟨hk,ho,r,eo,λk hk2=>adD l _ _ Q h k (p1.mem_iff.2 hk2)⟩)))⟩
  .exact M4 t l _ _ Q h w hw
def M0 (t:TG N root):∀(l:MY) (cs P:ε),Y7 N cs P l->∀w∈P,∃x,gt N w=some x/\PK N x
 |.nil,cs,P,⟨_,e⟩,w,hw=>by grind
 |.cons v l,cs,P,⟨a,r,P1,P2,_,e,h1,h2⟩,w,hw=>by
  rw[e] at hw;rcases List.mem_append.1 hw with hw|hw
  .exact Ly t v a P1 h1 w hw
  .exact M0 t l r P2 h2 w hw
def M4 (t:TG N root):∀(l:Js) (ks is P:ε),Vt N ks is P l->∀w∈P,∃x,gt N w=some x/\PK N x
 |.nil,ks,is,P,⟨_,_,e⟩,w,hw=>by grind
 |.cons s v l,ks,is,P,⟨k,kr,a,ir,P1,P2,_,_,e,⟨y,hy,hk,_⟩,h1,h2⟩,w,hw=>by
  rw[e] at hw;rcases List.mem_cons.1 hw with rfl|hw
  .exact⟨y,hy,.inr (.inl hk)⟩
  .rcases List.mem_append.1 hw with hw|hw
   .exact Ly t v a P1 h1 w hw
   .exact M4 t l kr ir P2 h2 w hw
def adD:∀(l:Js) (ks is P:ε),Vt N ks is P l->∀k∈ks,YL N k
 |.nil,ks,is,P,⟨e,_,_⟩,k,hk=>by grind
 |.cons s v l,ks,is,P,⟨k',kr,a,ir,P1,P2,e,_,_,⟨y,hy,hk',_⟩,h1,h2⟩,k,hk=>by
  rw[e] at hk;rcases List.mem_cons.1 hk with rfl|hk
  .exact⟨y,hy,hk'⟩
  .exact adD l kr ir P2 h2 k hk
end
def Rn.kinds {bs:List UInt8}{v:DT}(p:Rn N root bs v):∀x∈N,PK N x:=λx hx=>by
 obtain⟨P,h⟩:=p.p;obtain⟨i,hi⟩:=List.mem_iff_getElem?.1 hx;have hlt:=aN hi;have hm:(i:Int)∈iota N.length:=List.mem_map.2 ⟨i,List.mem_range.2 hlt,rfl⟩;obtain⟨y,hy,q⟩:=Ly p.t v root P h (i:Int) ((p.t.perm h).mem_iff.2 hm)
 grind [tO]
def am6 {v:Int}:KN N v↔∃x∈N,∃k∈x.keys,ow N k v:=by
 constructor
 .intro h
  induction h with
  |key hx hv=>exact⟨_,hx,_,hv,.refl⟩
  |step _ e ih=>
   obtain⟨x,hx,k,hk,r⟩:=ih;exact⟨x,hx,k,hk,r.step e⟩
 .rintro⟨x,hx,k,hk,r⟩
  induction r with
  |refl=>exact .key hx hk
  |step _ e ih=>exact ih.step e
structure BF (N:List ao) (a:Int) (ms:List Bool) (l:ε) (i:Nat):Prop where
 len:ms.length=N.length
 nd:l.Nodup
 iff:∀u,gt ms u=some true↔u∈l
 frm:a∈l
 Yr:∀u∈l,ow N a u
 cl:∀(j:Nat) u,j<i->l[j]?=some u->∀y,Edge N u y->gt ms y=some true
def BF.bound {a:Int}{ms:List Bool}{l:ε}{i:Nat}(b:BF N a ms l i):l.length<=N.length:=by
 exact zL b.nd λu hu=>by
  have h:=kF ((b.iff u).2 hu);rw[b.len] at h;exact h
def BF.fin {a:Int}{ms:List Bool}{l:ε}(b:BF N a ms l l.length)(u:Int):gt ms u=some true↔ow N a u:=by
 constructor
 .intro h;exact b.Yr u ((b.iff u).1 h)
 .intro r
  induction r with
  |refl=>exact (b.iff a).2 b.frm
  |step _ e ih=>
   obtain⟨j,hj⟩:=List.mem_iff_getElem?.1 ((b.iff _).1 ih);exact b.cl j _ (aN hj) hj _ e
end Go.Sh
namespace Go.Sh
open Go Go.Ago Go.Proofs
variable {N N':List ao}{root root':Int}{x x':ao}
def YN (N:List ao)(x:ao)(a b:Int):Prop:=Lib.compareBytes (HV N (nth x.keys a)).data.toList (HV N (nth x.keys b)).data.toList<0
def EO.tot {r}(e:EO N x r){a b}(ha:a∈iota x.items.length)(hb:b∈iota x.items.length)(hn:a≠b):YN N x a b\/YN N x b a:=by
 have h1:=e.1.mem_iff.2 ha;have h2:=e.1.mem_iff.2 hb;have:=e.2;clear ha hb e
 induction r with
 |nil=>cases h1
 |cons c r ih=>
  rw[anJ] at this;rcases List.mem_cons.1 h1 with rfl|k1<;>rcases List.mem_cons.1 h2 with rfl|k2
  .exact absurd rfl hn
  .exact .inl (this.1 _ k2)
  .exact .inr (this.1 _ k1)
  grind
structure ON (N:List ao) (x:ao) (i:Nat) (A B:ε):Prop where
 pm:(A++(i:Int)::B).Perm (iota (i+1))
 pw:(A++B).Pairwise (YN N x)
 lt:∀b∈B,YN N x i b
theorem YO i:iota (i+1)=iota i++[(i:Int)]:=by
 grind [iota,List.range_succ]
def ON.start {i}{l}(pm:l.Perm (iota i))(pw:l.Pairwise (YN N x)):ON N x i l []:=
 ⟨by grind [YO],by grind,λb hb=>by cases hb⟩
def ON.step {i}{A B}{a}(I:ON N x i (A++[a]) B)(h:YN N x i a):ON N x i A (a::B):=by
 refine⟨?_,by have:=I.pw;grind,λb hb=>?_⟩
 .refine List.Perm.trans ?_ I.pm
  grind
 .rcases List.mem_cons.1 hb with rfl|hb
  .exact h
  .exact I.lt b hb
def ON.fin {i}{A B}{r}(I:ON N x i A B)(e:EO N x r)(hi:i<x.items.length)(h:∀a,A.getLast?=some a->¬YN N x i a):(A++(i:Int)::B).Pairwise (YN N x):=by
 obtain⟨p1,p2,p3⟩:=List.pairwise_append.1 I.pw;refine List.pairwise_append.2 ⟨p1,List.pairwise_cons.2 ⟨I.lt,p2⟩,λa ha b hb=>?_⟩;rcases List.mem_cons.1 hb with rfl|hb
 .have key:∀c∈A,(c:Int)≠i/\c∈iota x.items.length:=λc hc=>by
   have nd:(A++(i:Int)::B).Nodup:=I.pm.nodup_iff.2 (BS _);have h1:=I.pm.mem_iff.1 (aeo _ hc);refine⟨λe=>?_,?_⟩
   .grind
   .obtain⟨j,hj,rfl⟩:=List.mem_map.1 h1;exact List.mem_map.2 ⟨j,List.mem_range.2 (by grind),rfl⟩
  have hii:(i:Int)∈iota x.items.length:=List.mem_map.2 ⟨i,List.mem_range.2 hi,rfl⟩;rcases arc A with rfl|⟨A,c,rfl⟩
  .cases ha
  .rw[ard] at *
   have hl:=h c (by simp);obtain⟨k1,k2⟩:=key c (by simp);have hc:YN N x c i:=(e.tot k2 hii k1).resolve_right hl;rcases List.mem_append.1 ha with ha|ha
   .exact Vr ((List.pairwise_append.1 p1).2.2 a ha c (by simp)) hc
   grind
 .exact p3 a ha b hb
def TG.aqs (t:TG N root){u v}(a:ow N u v)(b:ow N v u):u=v:=by
 rcases a.last with q|⟨p,r,e⟩
 .exact q
 .exact absurd (b.trans r) (t.nc _ _ e)
def TU (N:List ao)(k:Int):ζ:=ofBytes (102::zd (HV N k)++[48,40,41])
def ag4 {k k'}(e:TU N k=TU N k'):HV N k=HV N k':=by
 have h1:∀l:List UInt8,(ofBytes l).data.toList=l:=λl=>by unfold ofBytes;simp
 have h2:=an1 (λb=>b.data.toList) e
 grind [TU,adu,List.append_cancel_right,List.cons.inj]
def Rn.keys {bs}{v}(p:Rn N root bs v){x}(hx:x∈N):(x.keys=[]\/x.kind=10)/\(x.keys.map (TU N)).Nodup/\∀k∈x.keys,YL N k:=by
 have hk:=p.kinds x hx;have hf:=p.t.g.fm x hx;by_cases h10:x.kind=10
 .rcases hk with h|h|h|h|⟨_,_,r,e,k5⟩
  iterate 4 · grind
  refine⟨.inr h10,?_,k5⟩;have pm:=(e.keys (p.t.g.Lj hx h10)).1;refine (pm.map (TU N)).nodup_iff.1 ?_;rw[aqW];refine List.Pairwise.map _ (λa b h=>?_) e.2;intro q;have:=ag4 q;rw[this] at h;exact Oy _ h
 .have h0:x.keys=[]:=by
   by_cases h9:x.kind=9
   .exact (MZ hf h9).2.2
   .exact (GL hf h9 h10 (by rcases hk with h|h|h|h|⟨h,_⟩<;>omega)).2.1
  grind
end Go.Sh
namespace Go.Ago
open Go
variable {α β:Type}{h h' h0:aj}{L:List bA}
def TV {cs}{k}{v}(hk:k<cs.length):aR cs k [v]=cs.set k v:=by
 have:=yv (enc:=id) (v:=v) hk
 simp_all
def Z.stS (z:Z h0 h L) i {s}{e}{cs}{g k b}{v}{f:Unit->M β}{Q}(hi:L[i]?=some (.sl s 1 e cs g))(ha:s.a=some ⟨b,0,none⟩)(hk:k<cs.length)(hs:fv v=true)
  (q:∀h',Z h0 h' (L.set i (.sl s 1 e (cs.set k v) g))->Wp (f ()) h' Q):Wp (sh (sL ⟨b,k,none⟩ [v]) f) h Q:=by
 have o:nv h s 1 e cs g:=z.get i hi;have hl:=o.1;obtain⟨b2,base,h5,h6,hg⟩:=o.au (by omega);rw[ha] at h5;cases h5;rw[ah,RY];refine⟨cs,g,base,e,h6,hg,by grind,by simp[hs],?_⟩;rw[TV hk];exact q _ (z.wE hi hg (Fr.wE z.wf hg h6) (o.wE (by simp) (by omega) ha h6) (.inl rfl))
def Z.ixS (z:Z h0 h L)(i:Nat){s}{e}{cs}{g}{k}{f}{Q}(hi:L[i]?=some (.sl s 1 e cs g))(h1:0<=k)(h2:k<(cs.length:Int))
  (q:∀b,s.a=some ⟨b,0,none⟩->(∀{l:yf} {v:ξ} {x:l.den} {f:l.den->M β},cs[k.toNat]?=some v->D9 l v=some x->Wp (f x) h Q->Wp (sh (dz l ⟨b,k.toNat,none⟩) f) h Q)->Wp (f ⟨b,k.toNat,none⟩) h Q):Wp (sh (ni s k 1) f) h Q:=by
 have o:nv h s 1 e cs g:=z.get i hi;have hl:=o.1;obtain⟨b,base,h5,h6,hg⟩:=o.au (by omega);rw[ah,ta];refine⟨_,h5,h1,by omega,?_⟩;show Wp (f ⟨b,0+k.toNat*1,none⟩) h Q;rw[adY,ad6];refine q b h5 λ{l v x f} hv hx q=>?_;rw[ah,yr];refine⟨x,?_,q⟩;unfold aj.ld;grind
def Z.as (z:Z h0 h L){i}{o o'}(hi:L[i]?=some o)(hk:o'.ok h)(hg:o'.jU=o.jU):Z h0 h (L.set i o'):=by
 refine⟨z.OS,z.fr,λx hx=>?_,CU pH z.xB λj y hj hne e=>?_⟩
 .obtain⟨j,hj⟩:=List.mem_iff_getElem?.1 hx;rw[aqa] at hj;split at hj
  .split at hj
   .cases hj;exact⟨hk,by rw[hg];exact (z.own _ (BY hi)).2⟩
   grind
  .exact z.own x (BY hj)
 .rw[hg] at e⊢;exact CV pH z.xB hi hj (λe2=>hne e2.symm) e
def Z.am7 (z:Z h0 h L) i {k}{e}{f:Nat->M β}{Q}
  (q:∀h',Z h0 h' (L.set i (.sl ⟨some ⟨k,0,none⟩,0,1⟩ 1 e [] (k+1)))->Wp (f k) h' Q) (hi:L[i]?=some (.free k):=by rfl):Wp (sh (gG (some k) e []) f) h Q:=by
 rw[ah,J7];have hf:Fe h k:=(z.own _ (BY hi)).1;have hlt:=(List.getElem?_eq_some_iff.1 hi).1;refine⟨rfl,hf.1,hf.2.1,hf.2.2,q _ ?_⟩;have z1:=z.put hi (e:=e) (cs:=[]);have z2:=z1.as (o':=.sl ⟨some ⟨k,0,none⟩,0,1⟩ 1 e [] (k+1)) (ajo hlt)
  ⟨rfl,.inr ⟨by omega,hf.2.1,.inr rfl,k,0,rfl,nR,by rw[zU];simp⟩⟩ rfl
 simp_all
theorem YP {l:List α}{i}{x}(h:l[i]?=some x):l.set i x=l:=by
 have hlt:=(List.getElem?_eq_some_iff.1 h).1;refine anF λj=>?_
 grind
def Z.ao4 (z:Z h0 h L){cs}{e}{f:Nat->M β}{Q}(q:∀b h',Z h0 h' (.sl ⟨some ⟨b,0,none⟩,cs.length,cs.length+1⟩ 1 e cs (b+1)::L)->Wp (f b) h' Q)(hs:cs.all fv=true:=by rfl):Wp (sh (gG none e cs) f) h Q:=by
 rw[ah,Hd];refine⟨hs,q _ _ (z.add (Fr.new z.wf) ?_ (.inr (IT _)))⟩;refine⟨by simp,.inr ⟨by omega,by simp[aj.new,aj.cQ],.inr rfl,h.next,0,rfl,nR,by rw[aj.new,zU];simp⟩⟩
def Z.ao5 (z:Z h0 h L) i {st}{s}{sz n}{e}{cs new}{g}{f:Sl->M β}{Q}(hi:L[i]?=some (.sl s sz e cs g))(ha:s.a≠none)(hl:new.length=n*sz)(hb:s.len+n<=bJ)
  (q:∀s' h' g',s'.len=s.len+n->s'.a≠none->Z h0 h' (L.set i (.sl s' sz e (cs++new) g'))->Wp (f s') h' Q):Wp (sh (Ago.app st s sz e n new) f) h Q:=by
 by_cases hn:n=0
 .subst hn;have hnil:new=[]:=ahe (by omega);subst hnil;rw[ah];obtain⟨a,ha'⟩:=Option.ne_none_iff_exists'.1 ha;have hnx:=z.wf.get h.next (acX _)
  refine⟨s,h,by unfold Ago.app zO;grind,q s h g rfl ha ?_⟩
  grind [YP]
 .refine z.GI i hi hn hl hb λs' h' g' h1 z' _=>q s' h' g' h1 ?_ z';have hlt:=(List.getElem?_eq_some_iff.1 hi).1;have o:nv h' s' sz e (cs++new) g':=z'.get i (ajo hlt);obtain⟨b,base,h5,_⟩:=o.au (by omega)
  grind
def wK.rd {s}{cs}{g}(r:wK h s 1 cs g){f:δ->M β}{Q}(q:Wp (f cs) h Q):Wp (sh (EU s 1) f) h Q:=by
 rw[ah];refine ZQ ?_;have hl:=r.1;rcases r.2 with h3|⟨a,h3,h4,c,base,e,h5,h6,h7⟩
 .grind
 grind [aX]
end Go.Ago
namespace Go.Sh
open Go Go.Ago Go.Proofs
variable {α β:Type}{h h' h0:aj}{L:List bA}{Q:β->aj->Prop}{N:List ao}{s:Sl}{root:Int}{x:ao}
def VH (z:Z h0 h L){ks is}(ik:IL h0 ks x.keys)(ii:IL h0 is x.items)(hb:x.keys.length+x.items.length<=bJ) i {k}{st B5}{f}
  (q:∀s' h' g',s'.len=(refs x).length->Z h0 h' (L.set i (.sl s' 1 an ((refs x).map vi) g'))->Wp (f s') h' Q) (hi:L[i]?=some (.free k):=by rfl) :
  Wp (sh (gG (some k) an []) λx11=>sh (EU ks 1) λx12=>sh (Ago.app st { a:=some (ak x11),len:=0,cap:=1 } 1 3 ks.len x12) λx13=>sh (EU is 1) λx14=>sh (Ago.app B5 x13 1 3 is.len x14) f) h Q:=by
 have hlt:=aN hi;refine z.am7 i (λh1 z=>?_) hi;obtain⟨g1,r1⟩:=ik.fr z.fr;refine r1.rd ?_;refine z.ao5 i (ajo hlt) (by simp) (by rw[ik.len];simp) (by rw[ik.len];grind) λs2 h2 g2 l2 a2 z=>?_;rw[ap2] at z;obtain⟨g3,r3⟩:=ii.fr z.fr;refine r3.rd ?_;have e1:s2.len=x.keys.length:=by rw[l2,ik.len];grind
 refine z.ao5 i (ajo hlt) a2 (by rw[ii.len];simp) (by rw[ii.len];omega) λs4 h4 g4 l4 a4 z=>?_;rw[ap2] at z;refine q s4 h4 g4 (by rw[l4,ii.len,e1,refs,acm]) ?_;rw[aiO,<-aiJ] at z;exact z
def RM (N:List ao)(a:Int)(ms:List Bool):Prop:=ms.length=N.length/\∀u,gt ms u=some true↔ow N a u
theorem BF.add {a u y}{ms}{l}{i}(b:BF N a ms l i)(hy:gt ms y=some false)(hu:u∈l)(e:Edge N u y)(hi:i<=l.length):BF N a (ms.set y.toNat true) (l++[y]) i:=by
 have hir:IR ms.length y:=kF hy;have gs:∀w,gt (ms.set y.toNat true) w=some true↔w=y\/gt ms w=some true:=λw=>by
  grind [fG]
 refine⟨by rw[anA];exact b.len,?_,λw=>?_,aeo _ b.frm,λw hw=>?_,λj w hj hw v ev=>?_⟩
 .refine List.nodup_append.2 ⟨b.nd,List.nodup_cons.2 ⟨by simp,aoO⟩,λw hw v hv e2=>?_⟩;rw[agv] at hv;subst hv;subst e2;have:=(b.iff w).2 hw
  grind
 .rw[gs,b.iff,amp,agv]
  grind
 .rcases List.mem_append.1 hw with hw|hw
  .exact b.Yr w hw
  .rw[agv] at hw;subst hw;exact (b.Yr u hu).step e
 .rw[ajc (by omega)] at hw;exact (gs v).2 (.inr (b.cl j w hj hw v ev))
theorem BF.next {a u}{ms}{l}{i}(b:BF N a ms l i)(hx:gt N u=some x)(hu:l[i]?=some u)(h:∀y∈refs x,gt ms y=some true):BF N a ms l (i+1):=
 ⟨b.len,b.nd,b.iff,b.frm,b.Yr,λj w hj hw y e=>by
  by_cases hji:j=i
  .subst hji;rw[hu] at hw;cases hw;obtain⟨x',hx',hy⟩:=e;rw[hx] at hx';cases hx';exact h y (List.mem_append.2 hy)
  .exact b.cl j w (by omega) hw y e⟩
def am8 {a u}{i b cap}{xs:ε}{a4}{ga}(hxs:∀y∈xs,Edge N u y/\IR N.length y)(hbig:xs.length<1073741824)(hN:N.length<1073741824)(h4:a4.len=xs.length) a0 a3 :
  ∀n k a2 ms l g h ,xs.length-k<n->k<=xs.length->BF N a ms l i->i<=l.length->u∈l->(∀y∈xs.take k,gt ms y=some true) ->
   Z h0 h (.au b (ms.map Value.bool) e9::.sl a2 1 an (l.map vi) g::.sl a4 1 an (xs.map vi) ga::L) ->
   Wp (jo n a0 ⟨some ⟨b,0,none⟩,N.length,cap⟩ a2 a3 a4 (k:Int)) h λy h'=>∃ms l' g',BF N a ms l' i/\l <+: l'/\(∀y∈xs,gt ms y=some true)/\Z h0 h' (.au b (ms.map Value.bool) e9::.sl y 1 an (l'.map vi) g'::.sl a4 1 an (xs.map vi) ga::L):=by
 intro n
 induction n with
 |zero=>intro k a2 ms l g h h1;omega
 |succ n ih=>
  intro k a2 ms l g h h1 h2 bf hil hul ht z;rw[yE];unfold oU;rw[h4];by_cases hk:k<xs.length
  .rw[By (by grind)];obtain⟨y,hy⟩:=cG hk;obtain⟨ey,iy⟩:=hxs y (BY hy);have os:nv h a4 1 an (xs.map vi) ga:=z.get 2 rfl;have tk:∀ms':List Bool,(∀w∈xs.take k,gt ms' w=some true)->gt ms' y=some true->∀w∈xs.take (k+1),gt ms' w=some true:=λms' h1 h2 w hw=>by
    grind [List.take_succ]
   obtain⟨v,hv⟩:=lQ iy.1 (by rw[bf.len];exact iy.2);have hv2:=(ax hv).2;refine (nv.BX os).Jf (by omega) (by simpa using hy) λaa cl=>cl.mN rfl rfl ?_;refine ze iy.1 iy.2 ?_;refine z.ld 0 ?_ rfl (by rw[adY,abt,hv2];rfl) rfl;cases v with
   |true=>
    rw[AT (by simp),pA h2 (by omega)];exact ih (k+1) a2 ms l g h (by omega) (by omega) bf hil hul (tk ms ht hv) z
   |false=>
    rw[By (by rfl)];refine (nv.BX os).Jf (by omega) (by simpa using hy) λaa cl=>cl.mN rfl rfl ?_;refine ze iy.1 iy.2 ?_;rw[adY];refine z.Cb 0 (by have:=aN hv2;exact this) λh5 z=>?_;have os:nv h5 a4 1 an (xs.map vi) ga:=z.get 2 rfl;refine (nv.BX os).Jf (by omega) (by simpa using hy) λaa cl=>cl.mN rfl rfl ?_;have ol:nv h5 a2 1 an (l.map vi) g:=z.get 1 rfl;have hl2:a2.len=l.length:=(by have:=ol.1;grind);have hlb:=bf.bound;refine z.GI 1 (new:=[vi y]) rfl (by decide) rfl (by grind [bJ]) λs' h6 g' hs' z _=>?_;have bf2:=bf.add hv hul ey hil;have gs:∀w,gt ms w=some true->gt (ms.set y.toNat true) w=some true:=λw hw=>by
     rw[fG (kF hv)]
     grind
    have z:Z h0 h6 (.au b ((ms.set y.toNat true).map Value.bool) e9::.sl s' 1 an ((l++[y]).map vi) g'::.sl a4 1 an (xs.map vi) ga::L):=(by grind);rw[pA h2 (by omega)];refine (ih (k+1) s' (ms.set y.toNat true) (l++[y]) g' h6 (by omega) (by omega) bf2 (by grind) (aeo _ hul) (tk _ (λw hw=>gs w (ht w hw)) (by rw[fG (kF hv),By rfl])) z).mono λr h7 hr=>?_;obtain⟨ms',l',g',q1,q2,q3,q4⟩:=hr;exact⟨ms',l',g',q1,(List.prefix_append _ _).trans q2,q3,q4⟩
  .rw[AT (by grind),ag]
   grind
def am9 (G:iK h0 s N)(hI:qA N N.length)(hB:Bd N 80){a}(ha:IR N.length a){b cap x0} :
  ∀n i a2 ms l g h L ,N.length-i+160+2<n->BF N a ms l i->i<=l.length ->
   Z h0 h (.au b (ms.map Value.bool) e9::.sl a2 1 an (l.map vi) g::.au x0 [aA s,vi root] ai::L) ->
   Wp (jq n (ak x0) ⟨some ⟨b,0,none⟩,N.length,cap⟩ a2 (i:Int)) h λ_ h'=>∃ms,RM N a ms/\Z h0 h' (.au b (ms.map Value.bool) e9::L):=by
 have hBB:=hB.2.1;have hNB:=hB.1;intro n
 induction n with
 |zero=>intro i a2 ms l g h L h1;omega
 |succ n ih=>
  intro i a2 ms l g h L h1 bf hil z;rw[yF];unfold oV;have ol:nv h a2 1 an (l.map vi) g:=z.get 1 rfl;have hl2:a2.len=l.length:=by have:=ol.1;grind
  have hlb:=bf.bound;rw[hl2];by_cases hi:i<l.length
  .rw[By (by grind)];obtain⟨u,hu⟩:=cG hi;have hul:=BY hu;have iu:IR N.length u:=(bf.Yr u hul).ir hI ha;obtain⟨x,hx⟩:=lQ iu.1 iu.2;have hbx:=hB.2.2 x (aE hx);refine z.bX [8] (by decide) (by decide) λnb h3 z=>?_;have os:nv h3 a2 1 an (l.map vi) g:=z.get 2 rfl;refine (nv.BX os).Jf (by omega) (by simpa using hu) λaa cl=>?_;refine z.ld 3 (x:=s) ?_;refine cl.mN rfl rfl ?_;refine G.at z (ax hx).1 (ax hx).2 λa1 ks is nd ik ii=>nd.eZ ?_;refine z.newAt 0 λh4 z=>?_;refine z.st 0 (cs':=[vi x.kind,.string x.text,.bool x.ord,aA ks,aA is]) λh5 z=>?_;refine z.bX [0] (by decide) (by decide) λnb2 h6 z=>?_;refine z.ld 1 (x:=ks) ?_;refine z.ld 1 (x:=is) ?_;refine VH z ik ii (by grind [bJ]) 0 λs' h7 g' hs' z=>?_;have rl:(refs x).length=x.keys.length+x.items.length:=by rw[refs,acm]
   rw[ah];have z:=z.iH (pre:=[.sl s' 1 an ((refs x).map vi) g',.au (nb+8) [vi x.kind,.string x.text,.bool x.ord,aA ks,aA is] ar,.au b (ms.map Value.bool) e9,.sl a2 1 an (l.map vi) g]) [2,3,0,1] (by simp only[acg,agy];decide);refine (am8 (xs:=refs x) (λy hy=>⟨⟨x,hx,List.mem_append.1 hy⟩,?_⟩) (by omega) (by omega) hs' _ _ n 0 a2 ms l g h7 (by omega) (aea _) bf hil hul (λy hy=>by cases hy) z).mono λy h8 hy=>?_
   .exact (List.mem_append.1 hy).elim ((hI x (aE hx)).1 y) ((hI x (aE hx)).2 y)
   obtain⟨ms',l',g2,q1,q2,q3,z⟩:=hy;have hle:=q2.length_le;have hu':l'[i]?=some u:=by
    obtain⟨t,rfl⟩:=q2
    grind
   rw[pA (anR hi) (by omega)];have z:Z h0 h8 (.au b (ms'.map Value.bool) e9::.sl y 1 an (l'.map vi) g2::.au x0 [aA s,vi root] ai::L):=z.sub (.cons₂ _ (.cons₂ _ (.cons _ (.cons _ (.refl _)))));exact ih (i+1) y ms' l' g2 h8 L (by grind) (q1.next hx hu' q3) (by omega) z
  .rw[AT (by grind),ag];obtain rfl:i=l.length:=by omega
   exact⟨ms,⟨bf.len,bf.fin⟩,z.sub (.cons₂ _ (.cons _ (.cons _ (.refl _))))⟩
def Lz (z:Z h0 h L)(G:iK h0 s N)(hI:qA N N.length)(hB:Bd N 80){a}(ha:IR N.length a){n}(hn:240+2<n) :
  Wp (jI n (s,root) a) h λx h'=>∃(b:Nat) (ms:List Bool),x=arr b N.length/\RM N a ms/\Z h0 h' (.au b (ms.map Value.bool) e9::L):=by
 have hBB:=hB.2.1;have hNB:=hB.1;unfold jI;refine z.new λx0 h1 z _=>?_;refine z.ld 0 (x:=s) ?_;rw[G.len];refine z.Ig (by omega) (by grind [bJ]) λb h2 z _=>?_;rw[IS] at z⊢;rw[lH] at z;refine ze ha.1 ha.2 ?_;rw[adY];have hlt:a.toNat<N.length:=by have:=ha.1;have:=ha.2;omega
 refine z.Cb 0 (xs:=List.replicate N.length false) (by grind) λh3 z=>?_;refine z.ao4 λb1 h4 z=>?_;rw[ah];have bf:BF N a ((List.replicate N.length false).set a.toNat true) [a] 0:=by
  have hr:IR (List.replicate N.length false).length a:=by grind
  refine⟨by simp,List.nodup_cons.2 ⟨by simp,aoO⟩,λu=>?_,List.mem_singleton.2 rfl,λu hu=>by rw[agv] at hu;subst hu;exact .refl,λj u hj=>by omega⟩;rw[fG hr,agv];by_cases e:u=a
  .simp[e]
  .simp only[AT e,e,iff_false];intro h;have:=aE h
   grind
 have z:=z.iH (pre:=[.sl ⟨some ⟨b1,0,none⟩,1,2⟩ 1 an [vi a] (b1+1),.au b (((List.replicate N.length false).set a.toNat true).map Value.bool) e9]) [1,0] (by grind);refine (am9 G hI hB ha n 0 _ _ [a] _ h4 L (by omega) bf (aea _) z).mono λ_ h5 hy=>?_;obtain⟨ms,q,z⟩:=hy;rw[ag];exact⟨b,ms,rfl,q,z⟩
end Go.Sh
namespace Go.Sh
open Go Go.Ago Go.Proofs
variable {α β:Type}{h h' h0:aj}{L:List bA}{Q:β->aj->Prop}{N:List ao}{s:Sl}{root:Int}{x:ao}
def ana (G:iK h0 s N){i:Nat}(hx:N[i]?=some x)(hl:x.keys.length<1073741824){b cap x0} :
  ∀n k c r h ,x.keys.length-k<n->k<=x.keys.length->jO (x.keys.drop k) c=some r->c.length=N.length->Z h0 h (.au b (c.map vi) an::.au x0 [aA s,vi root] ai::L) ->
   Wp (iQ n (ak x0) ⟨some ⟨b,0,none⟩,N.length,cap⟩ (i:Int) (k:Int)) h λ_ h'=>Z h0 h' (.au b (r.map vi) an::.au x0 [aA s,vi root] ai::L):=by
 intro n
 induction n with
 |zero=>intro k c r h h1;omega
 |succ n ih=>
  intro k c r h h1 h2 hb hc z;rw[xG];unfold nY;refine z.ld 1 (x:=s) ?_;refine G.at z (by omega) (by simpa using hx) λa ks is nd ik ii=>nd.Fj ?_;rw[ik.len];by_cases hk:k<x.keys.length
  .rw[By (by grind)];obtain⟨y,hy⟩:=cG hk;rw[drop_cons hy,jO] at hb;cases hb1:bump c y with
   |none=>rw[hb1] at hb;cases hb
   |some c1=>
    rw[hb1] at hb;refine z.ld 1 (x:=s) ?_;refine G.at z (by omega) (by simpa using hx) λa ks is nd ik ii=>nd.Fj ?_;refine (ik.fr z.fr).ix (by omega) (by simpa using hy) λa g cl=>cl.mN rfl rfl ?_;refine zK (i:=0) z rfl hb1 hc.symm λh2' z=>?_;rw[pA h2 (by omega)];exact ih (k+1) c1 r h2' (by omega) (by omega) hb (by grind [u9]) z
  .rw[AT (by grind),ag];rw[aco (by omega)] at hb;cases hb;exact z
def anb (G:iK h0 s N){i:Nat}(hx:N[i]?=some x)(hl:x.items.length<1073741824){b cap x0} :
  ∀n k c r h ,x.items.length-k<n->k<=x.items.length->jO (x.items.drop k) c=some r->c.length=N.length->Z h0 h (.au b (c.map vi) an::.au x0 [aA s,vi root] ai::L) ->
   Wp (iR n (ak x0) ⟨some ⟨b,0,none⟩,N.length,cap⟩ (i:Int) (k:Int)) h λ_ h'=>Z h0 h' (.au b (r.map vi) an::.au x0 [aA s,vi root] ai::L):=by
 intro n
 induction n with
 |zero=>intro k c r h h1;omega
 |succ n ih=>
  intro k c r h h1 h2 hb hc z;rw[xH];unfold nZ;refine z.ld 1 (x:=s) ?_;refine G.at z (by omega) (by simpa using hx) λa ks is nd ik ii=>nd.Hh ?_;rw[ii.len];by_cases hk:k<x.items.length
  .rw[By (by grind)];obtain⟨y,hy⟩:=cG hk;rw[drop_cons hy,jO] at hb;cases hb1:bump c y with
   |none=>rw[hb1] at hb;cases hb
   |some c1=>
    rw[hb1] at hb;refine z.ld 1 (x:=s) ?_;refine G.at z (by omega) (by simpa using hx) λa ks is nd ik ii=>nd.Hh ?_;refine (ii.fr z.fr).ix (by omega) (by simpa using hy) λa g cl=>cl.mN rfl rfl ?_;refine zK (i:=0) z rfl hb1 hc.symm λh2' z=>?_;rw[pA h2 (by omega)];exact ih (k+1) c1 r h2' (by omega) (by omega) hb (by grind [u9]) z
  .rw[AT (by grind),ag];rw[aco (by omega)] at hb;cases hb;exact z
def anc (G:iK h0 s N)(hB:Bd N 80){b cap x0} :
  ∀n i c r h ,N.length-i+80+2<n->i<=N.length->jO ((N.drop i).flatMap refs) c=some r->c.length=N.length->Z h0 h (.au b (c.map vi) an::.au x0 [aA s,vi root] ai::L) ->
   Wp (iS n (ak x0) ⟨some ⟨b,0,none⟩,N.length,cap⟩ (i:Int)) h λ_ h'=>Z h0 h' (.au b (r.map vi) an::.au x0 [aA s,vi root] ai::L):=by
 have hBB:=hB.2.1;have hNB:=hB.1;intro n
 induction n with
 |zero=>intro i c r h h1;omega
 |succ n ih=>
  intro i c r h h1 h2 hb hc z;rw[xI];unfold n7;refine z.ld 1 (x:=s) ?_;rw[G.len];by_cases hi:i<N.length
  .rw[By (by grind)];obtain⟨x,hx⟩:=cG hi;have hbd:=hB.2.2 x (BY hx);rw[drop_cons hx,ahr,refs,ad3,D7] at hb;cases hb1:jO x.keys c with
   |none=>rw[hb1] at hb;cases hb
   |some c1=>
    rw[hb1,anI,D7] at hb;cases hb2:jO x.items c1 with
    |none=>rw[hb2] at hb;cases hb
    |some c2=>
     rw[hb2,anI] at hb;have l1:=qF hb1;have l2:=qF hb2;rw[ah];refine (ana G hx (by omega) n 0 c c1 h (by omega) (aea _) hb1 hc z).mono λ_ h3 z=>?_;rw[ah];refine (anb G hx (by omega) n 0 c1 c2 h3 (by omega) (aea _) hb2 (by omega) z).mono λ_ h4 z=>?_;rw[pA h2 (by omega)];exact ih (i+1) c2 r h4 (by omega) (by omega) hb (by omega) z
  .rw[AT (by grind),ag];rw[aco (by omega)] at hb;cases hb;exact z
def YQ (z:Z h0 h L)(G:iK h0 s N)(hI:qA N N.length)(hr:IR N.length root)(hB:Bd N 80){n}(hn:160+3<n) :
  Wp (oB n (s,root)) h λx h'=>∃(b:Nat) (r:ε),x=arr b N.length/\r.length=N.length/\(∀v,IR N.length v->gt r v=some (((root::N.flatMap refs).count v:Nat):Int))/\Z h0 h' (.au b (r.map vi) an::L):=by
 have hBB:=hB.2.1;have hNB:=hB.1;have hlen:(root::N.flatMap refs).length<4611686018427387904:=by
  have h2:=Om hB.2.2
  grind
 have hin:∀v∈root::N.flatMap refs,IR N.length v:=λv hv=>by
  rcases List.mem_cons.1 hv with rfl|hv
  .exact hr
  .obtain⟨x,hx,hv⟩:=List.mem_flatMap.1 hv;exact (List.mem_append.1 hv).elim ((hI x hx).1 v) ((hI x hx).2 v)
 have e0:List.replicate N.length (0:Int)=CC N.length []:=by
  unfold CC;refine anF λj=>?_
  grind
 have hb:jO (root::N.flatMap refs) (List.replicate N.length 0)=some (CC N.length (root::N.flatMap refs)):=by
  grind [AL,List.length_nil]
 rw[jO] at hb;unfold oB;refine z.new λx0 h1 z _=>?_;refine z.ld 0 (x:=s) ?_;rw[G.len];refine z.Ig (by omega) (by grind [bJ]) λb h2 z _=>?_;rw[IS] at z⊢;rw[lH] at z;refine z.ld 1 (x:=root) ?_;cases h1:bump (List.replicate N.length 0) root with
 |none=>rw[h1] at hb;cases hb
 |some c1=>
  rw[h1,anI] at hb;have l1:=u9 h1;rw[aeP] at l1;refine zK (i:=0) z rfl h1 (by simp) λh3 z=>?_;rw[ah];refine (anc G hB n 0 c1 _ h3 (by omega) (aea _) hb l1 z).mono λ_ h4 z=>?_;rw[ag];exact⟨b,_,rfl,by rw[qF hb,l1],λv hv=>U6 hv,z.sub (.cons₂ _ (.cons _ (.refl _)))⟩
def KM (N:List ao)(K:ε)(ms:List Bool):Prop:=ms.length=N.length/\∀u,gt ms u=some true↔∃k∈K,ow N k u
def ane {b b2 cap cap2}{o0 ms}(hm:ms.length=N.length)(hN:N.length<1073741824) a0 a2 a3 :
  ∀n i o h ,N.length-i<n->i<=N.length->o.length=N.length->(∀v,gt o v=some true↔gt o0 v=some true\/(v<(i:Int)/\gt ms v=some true))->Z h0 h (.au b (o.map Value.bool) e9::.au b2 (ms.map Value.bool) e9::L) ->
   Wp (fY n a0 ⟨some ⟨b,0,none⟩,N.length,cap⟩ a2 a3 ⟨some ⟨b2,0,none⟩,N.length,cap2⟩ (i:Int)) h λ_ h'=>∃o,o.length=N.length/\(∀v,gt o v=some true↔gt o0 v=some true\/gt ms v=some true)/\Z h0 h' (.au b (o.map Value.bool) e9::.au b2 (ms.map Value.bool) e9::L):=by
 intro n
 induction n with
 |zero=>intro i o h h1;omega
 |succ n ih=>
  intro i o h h1 h2 ho hv z;rw[xK];unfold n8;by_cases hi:i<N.length
  .rw[By (by grind)];have hir:IR o.length (i:Int):=⟨by omega,by omega⟩;obtain⟨v,ev⟩:=cG (l:=o) (i:=i) (by omega);obtain⟨w,ew⟩:=cG (l:=ms) (i:=i) (by omega);have gv:gt o (i:Int)=some v:=by rw[tO,ev]
   have gw:gt ms (i:Int)=some w:=by rw[tO,ew]
   have go:∀(y:Bool) (h3:aj),(y=true↔v=true\/w=true)->Z h0 h3 (.au b ((o.set i y).map Value.bool) e9::.au b2 (ms.map Value.bool) e9::L) ->
     Wp (fY n a0 ⟨some ⟨b,0,none⟩,N.length,cap⟩ a2 a3 ⟨some ⟨b2,0,none⟩,N.length,cap2⟩ (IntKind.i64.wrap ((i:Int)+1))) h3 λ_ h'=>∃o,o.length=N.length/\(∀v,gt o v=some true↔gt o0 v=some true\/gt ms v=some true)/\Z h0 h' (.au b (o.map Value.bool) e9::.au b2 (ms.map Value.bool) e9::L):=λy h3 hy z=>by
    rw[pA h2 (by omega)];refine ih (i+1) (o.set i y) h3 (by omega) (by omega) (by grind) (λu=>?_) z;have gs:=fG (x:=y) (u:=u) hir;rw[IS] at gs
    grind
   refine ze (by omega) (by omega) ?_;rw[IS,adY];refine z.ld 0 ?_ rfl (by rw[abt,ev];rfl) rfl;cases v with
   |true=>
    rw[By (by rfl)];refine ze (by omega) (by omega) ?_;rw[IS,adY];refine z.Cb 0 (xs:=o) (by omega) λh3 z=>?_;exact go true h3 (by simp) z
   |false=>
    rw[AT (by simp)];refine ze (by omega) (by omega) ?_;rw[IS,adY];refine z.ld 1 ?_ rfl (by rw[abt,ew];rfl) rfl;refine ze (by omega) (by omega) ?_;rw[IS,adY];refine z.Cb 0 (xs:=o) (by omega) λh3 z=>?_;exact go w h3 (by simp) z
  .rw[AT (by grind),ag];refine⟨o,ho,λv=>?_,z⟩;rw[hv v];refine or_congr_right ⟨λq=>q.2,λq=>⟨?_,q⟩⟩;have:=(kF q).2;omega
def anf (G:iK h0 s N)(hI:qA N N.length)(hB:Bd N 80){i:Nat}(hx:N[i]?=some x){b cap x0} :
  ∀n k K o h ,x.keys.length-k+240+3<n->k<=x.keys.length->KM N K o->Z h0 h (.au b (o.map Value.bool) e9::.au x0 [aA s,vi root] ai::L) ->
   Wp (iU n (ak x0) ⟨some ⟨b,0,none⟩,N.length,cap⟩ (i:Int) (k:Int)) h λ_ h'=>∃o,KM N (K++x.keys.drop k) o/\Z h0 h' (.au b (o.map Value.bool) e9::.au x0 [aA s,vi root] ai::L):=by
 have hBB:=hB.2.1;have hNB:=hB.1;have hbx:=hB.2.2 x (BY hx);intro n
 induction n with
 |zero=>intro k K o h h1;omega
 |succ n ih=>
  intro k K o h h1 h2 km z;rw[xL];unfold od;refine z.ld 1 (x:=s) ?_;refine G.at z (by omega) (by simpa using hx) λa ks is nd ik ii=>nd.Fj ?_;rw[ik.len];by_cases hk:k<x.keys.length
  .rw[By (by grind)];obtain⟨y,hy⟩:=cG hk;have iy:=(hI x (BY hx)).1 y (BY hy);refine z.eZ 1 (ls:=[.sl,li]) (x:=(s,root)) ?_;refine z.ld 1 (x:=s) ?_;refine G.at z (by omega) (by simpa using hx) λa ks is nd ik ii=>nd.Fj ?_;refine (ik.fr z.fr).ix (by omega) (by simpa using hy) λa g cl=>cl.mN rfl rfl ?_;rw[ah];refine (Lz z G hI hB iy (by omega)).mono λr h3 hr=>?_;obtain⟨b2,ms,rfl,rm,z⟩:=hr;have z:=z.perm (List.Perm.swap _ _ _);rw[ah];refine (ane (o0:=o) rm.1 (by omega) _ _ _ n 0 o h3 (by omega) (aea _) km.1 (λv=>⟨.inl,λq=>q.elim id λq=>?_⟩) z).mono λ_ h4 hy2=>?_
   .have:=(kF q.2).1;omega
   obtain⟨o2,q1,q2,z⟩:=hy2;have z:=(z.perm (List.Perm.swap _ _ _)).drop;rw[pA h2 (by omega)];have km2:KM N (K++[y]) o2:=⟨q1,λu=>by
    rw[q2,km.2,rm.2]
    grind⟩
   refine (ih (k+1) (K++[y]) o2 h4 (by omega) (by omega) km2 z).mono λ_ h5 hy3=>?_
   grind [drop_cons,List.append_assoc]
  .rw[AT (by grind),ag]
   grind
def ang (G:iK h0 s N)(hI:qA N N.length)(hB:Bd N 80){b cap x0} :
  ∀n i K o h ,N.length-i+320+5<n->i<=N.length->KM N K o->Z h0 h (.au b (o.map Value.bool) e9::.au x0 [aA s,vi root] ai::L) ->
   Wp (iV n (ak x0) ⟨some ⟨b,0,none⟩,N.length,cap⟩ (i:Int)) h λ_ h'=>∃o,KM N (K++(N.drop i).flatMap ao.keys) o/\Z h0 h' (.au b (o.map Value.bool) e9::.au x0 [aA s,vi root] ai::L):=by
 have hBB:=hB.2.1;have hNB:=hB.1;intro n
 induction n with
 |zero=>intro i K o h h1;omega
 |succ n ih=>
  intro i K o h h1 h2 km z;rw[xM];unfold oe;refine z.ld 1 (x:=s) ?_;rw[G.len];by_cases hi:i<N.length
  .rw[By (by grind)];obtain⟨x,hx⟩:=cG hi;have hbx:=hB.2.2 x (BY hx);rw[ah];refine (anf G hI hB hx n 0 K o h (by omega) (aea _) km z).mono λ_ h3 hy=>?_;obtain⟨o2,km2,z⟩:=hy;rw[alZ] at km2;rw[pA h2 (by omega)];refine (ih (i+1) _ o2 h3 (by omega) (by omega) km2 z).mono λ_ h5 hy3=>?_;rw[drop_cons hx,ahr]
   grind
  .rw[AT (by grind),ag]
   grind
def YS (z:Z h0 h L)(G:iK h0 s N)(hI:qA N N.length)(hB:Bd N 80){n}(hn:400+5<n) :
  Wp (oD n (s,root)) h λx h'=>∃(b:Nat) (ms:List Bool),x=arr b N.length/\ms.length=N.length/\(∀v,gt ms v=some true↔KN N v)/\Z h0 h' (.au b (ms.map Value.bool) e9::L):=by
 have hBB:=hB.2.1;have hNB:=hB.1;unfold oD;refine z.new λx0 h1 z _=>?_;refine z.ld 0 (x:=s) ?_;rw[G.len];refine z.Ig (by omega) (by grind [bJ]) λb h2 z _=>?_;rw[IS] at z⊢;rw[lH] at z;rw[ah];refine (ang G hI hB n 0 [] _ h2 (by omega) (aea _) ⟨by simp,λu=>⟨λe=>?_,λ⟨k,hk,_⟩=>by cases hk⟩⟩ z).mono λ_ h3 hy=>?_
 .have:=anL (aE e)
  grind
 obtain⟨o,km,z⟩:=hy;rw[ag];refine⟨b,o,rfl,km.1,λv=>?_,z.sub (.cons₂ _ (.cons _ (.refl _)))⟩;rw[km.2,am6,aiO,alZ]
 grind
end Go.Sh
namespace Go.Sh
open Go Go.Ago Go.Proofs
variable {h h':aj}{n:Nat}
def ag5 {α}{c}[Decidable c]{a b:M α}{h}{Q}(hc:c)(ha:Wp a h Q):Wp (if c then a else b) h Q:=by rw[By hc];exact ha
def VI c (k:Nat)(hk:k<256):((c.toNat:Int)=k)↔c=UInt8.ofNat k:=by
 grind [UInt8.toNat_inj,UInt8.toNat_ofNat',Nat.mod_eq_of_lt]
def ao6 {s:ζ}{i}(h:i<s.size):∃c,s.data.toList[i]?=some c:=⟨_,adg (by simp_all)⟩
def cont (b:UInt8):Bool:=decide (128<=b.toNat/\b.toNat<=191)
def AO (v:Nat)(T:List UInt8):Nat:=T.foldl (λv b=>64*v+(b.toNat-128)) v
def DV (lo hi V:Nat):Prop:=lo<=V/\V<=hi/\¬(55296<=V/\V<=57343)
def Ip:List UInt8->Prop
 |[]=>False
 |c::T=>(T=[]/\c.toNat<128)\/(T.all cont=true/\((T.length=1/\192<=c.toNat/\c.toNat<224/\DV 128 2047 (AO (c.toNat-192) T))
  \/ (T.length=2/\224<=c.toNat/\c.toNat<240/\DV 2048 65535 (AO (c.toNat-224) T))\/(T.length=3/\240<=c.toNat/\c.toNat<248/\DV 65536 1114111 (AO (c.toNat-240) T))))
def Mj (s:ζ)(i:Nat):Nat:=if (Utf8.decode s i).1=65533/\(Utf8.decode s i).2=1 then 0 else (Utf8.decode s i).2
def dec (z1 z2 z3:Bool)(b0 b1 b2 b3:Nat):Nat×Nat:=
 if b0<128 then (b0,1)
 else if b0/32==6&&(z1&&b1/64==2) then (if (b0%32)*64+b1%64≥128 then ((b0%32)*64+b1%64,2) else (65533,1))
 else if b0/16==14&&(z1&&b1/64==2)&&(z2&&b2/64==2) then
  (if (b0%16)*4096+(b1%64)*64+b2%64≥2048&&Utf8.valid ((b0%16)*4096+(b1%64)*64+b2%64:Nat) then ((b0%16)*4096+(b1%64)*64+b2%64,3) else (65533,1))
 else if b0/8==30&&(z1&&b1/64==2)&&(z2&&b2/64==2)&&(z3&&b3/64==2) then
  (if (b0%8)*262144+(b1%64)*4096+(b2%64)*64+b3%64≥65536&&Utf8.valid ((b0%8)*262144+(b1%64)*4096+(b2%64)*64+b3%64:Nat) then ((b0%8)*262144+(b1%64)*4096+(b2%64)*64+b3%64,4) else (65533,1))
 else (65533,1)
theorem LA s i:Utf8.decode s i=dec (decide (i+1<s.size)) (decide (i+2<s.size)) (decide (i+3<s.size)) (s.get! i).toNat (s.get! (i+1)).toNat (s.get! (i+2)).toNat (s.get! (i+3)).toNat:=rfl
def wid (r:Nat×Nat):Nat:=if r.1=65533/\r.2=1 then 0 else r.2
def Fw (z1 z2 z3:Bool)(b0 b1 b2 b3 n:Nat):Prop:=
 (n=1/\b0<128)\/(n=2/\z1=true/\(128<=b1/\b1<=191)/\192<=b0/\b0<224/\128<=64*(b0-192)+(b1-128))
 \/ (n=3/\z1=true/\z2=true/\(128<=b1/\b1<=191)/\(128<=b2/\b2<=191)/\224<=b0/\b0<240/\2048<=64*(64*(b0-224)+(b1-128))+(b2-128)/\¬(55296<=64*(64*(b0-224)+(b1-128))+(b2-128)/\64*(64*(b0-224)+(b1-128))+(b2-128)<=57343))
 \/ (n=4/\z1=true/\z2=true/\z3=true/\(128<=b1/\b1<=191)/\(128<=b2/\b2<=191)/\(128<=b3/\b3<=191)/\240<=b0/\b0<248/\65536<=64*(64*(64*(b0-240)+(b1-128))+(b2-128))+(b3-128)/\64*(64*(64*(b0-240)+(b1-128))+(b2-128))+(b3-128)<=1114111)
def YT (r:Nat):Utf8.valid (r:Int)=true↔r<55296\/(57344<=r/\r<=1114111):=by
 unfold Utf8.valid
 grind
set_option maxRecDepth 100000 in
def VJ (z1 z2 z3:Bool){b0 b1 b2 b3 n:Nat}(h0:b0<256)(h1:b1<256)(h2:b2<256)(h3:b3<256)(hn:1<=n):wid (dec z1 z2 z3 b0 b1 b2 b3)=n↔Fw z1 z2 z3 b0 b1 b2 b3 n:=by
 unfold dec Fw;by_cases k0:b0<128
 .rw[By k0]
  grind [wid]
 .rw[AT k0];simp only[ac5,beq_iff_eq,ab8,YT];split
  .grind [wid]
  .rename_i k1;split
   .rename_i k2;split
    .grind [wid]
    grind [wid]
   .rename_i k2;split
    .rename_i k3;split
     .rename_i k4;unfold wid;rw[AT (by simp)];simp only;constructor
      .grind
      grind
     .rename_i k4;unfold wid
      grind
    .rename_i k3;unfold wid;rw[By (by simp)];constructor
     .grind
     grind
def get_some {s:ζ}{j}(h:j<s.size):s.data.toList[j]?=some (s.get! j):=by
 obtain⟨d⟩:=s;have h':j<d.size:=h;show d.toList[j]?=some d[j]!
 grind
def OO {s}{i n}(hi:i<s.size)(h1:1<=n)(h4:n<=4):(i+n<=s.size/\Ip ((s.data.toList.drop i).take n))↔Mj s i=n:=by
 have hw:Mj s i=wid (Utf8.decode s i):=rfl;rw[hw,LA,VJ _ _ _ (ao1 _) (ao1 _) (ao1 _) (ao1 _) h1];unfold Fw;by_cases hz:i+n<=s.size
 .have g0:=drop_cons (get_some (by omega));rcases (show n=1\/n=2\/n=3\/n=4 by omega) with rfl|rfl|rfl|rfl
  .grind [Ip,cont,AO,DV]
  .have g1:=drop_cons (get_some (s:=s) (j:=i+1) (by omega));rw[g0,g1];simp[Ip,cont,AO,DV,hz];omega
  .have g1:=drop_cons (get_some (s:=s) (j:=i+1) (by omega));have g2:s.data.toList.drop (i+1+1)=s.get! (i+2)::s.data.toList.drop (i+2+1):=drop_cons (get_some (by omega));rw[g0,g1,g2];simp[Ip,cont,AO,DV,hz];omega
  .have g1:=drop_cons (get_some (s:=s) (j:=i+1) (by omega));have g2:s.data.toList.drop (i+1+1)=s.get! (i+2)::s.data.toList.drop (i+2+1):=drop_cons (get_some (by omega));have g3:s.data.toList.drop (i+2+1)=s.get! (i+3)::s.data.toList.drop (i+3+1):=drop_cons (get_some (by omega));rw[g0,g1,g2,g3];simp[Ip,cont,AO,DV,hz];omega
 grind
def aqt {x:Nat}(h:x<=9223372036854775807):IntKind.i64.wrap (x:Int)=x:=vw (by omega) (by omega)
def At (cs:δ)(o:Nat)(T:List UInt8):Prop:=∀(j:Nat) (d:UInt8),T[j]?=some d->cs[o+j]?=some (vb d)
def At.tail {cs}{o}{d}{T}(a:At cs o (d::T)):At cs (o+1) T:=λj e he=>by
 have:=a (j+1) e (by grind)
 grind
def At.ld {b o}{cs}{d}{T}(l:LB h b cs gH)(a:At cs o (d::T)):h.ldI .u8 b o=some (d.toNat:Int):=
 l.ld (lf:=.int .u8) (v:=vb d) (by simpa using a 0 d rfl) rfl
def aiU {b o m cp}{cs}(l:LB h b cs gH){a1 lo hi}(hm:m<=4):∀T (n i v:Nat),At cs (o+i) T->i+T.length=m->T.length<n->(v+1)*64^T.length<=1099511627776 ->
  Wp (fW n ⟨some ⟨b,o,none⟩,m,cp⟩ a1 v lo hi i) h λx h'=>h'=h/\x=if T.all cont=true then .inl ((AO v T:Nat):Int) else .inr (0,0)
 |_,0,_,_,_,_,hn,_=>by omega
 |[],n+1,i,v,_,hi',hn,hv=>by
  rw[qX];unfold jR;simp at hi';refine eE.2 ⟨λe=>by simp at e;omega,λ_=>?_⟩;rw[ag];exact⟨rfl,rfl⟩
 |d::T,n+1,i,v,ha,hi',hn,hv=>by
  rw[qX];unfold jR;simp only[acg] at hi' hn hv;have hld:=ha.ld l;have hlt:=d.toNat_lt;refine ag5 (by grind) ?_;simp only[ah,lC,lZ,mc,me,ma,fA,bY,ag,gQ,ad6,Nat.reduceAdd,adW,exists_eq_left',ab8,ta,exists_eq_left',IS,adY,hld];refine⟨by omega,by omega,?_⟩;refine eE.2 ⟨λh1=>?_,λh1=>?_⟩
  .have hc:cont d=false:=aqx (by omega);rw[ag];grind
  .simp only[ah,lC,lZ,mc,me,ma,fA,bY,ag,gQ,ad6,Nat.reduceAdd,adW,exists_eq_left',ab8,ta,exists_eq_left',IS,adY,hld];refine⟨by omega,by omega,?_⟩;refine eE.2 ⟨λh2=>?_,λh2=>?_⟩
   .have hc:cont d=false:=aqx (by omega);rw[ag];grind
   .have hc:cont d=true:=ai4 (by omega);unfold lK;have hv1:v+1<=1099511627776:=ad5 (Nat.le_mul_of_pos_right _ (Nat.pow_pos (by omega))) hv;have e1:IntKind.i64.wrap (IntKind.i64.wrap (IntKind.i64.wrap (64*(v:Int))+IntKind.i64.wrap ((d.toNat:Nat):Int))-128)=((64*v+(d.toNat-128):Nat):Int):=by
     grind [vw]
    have e2:IntKind.i64.wrap ((i:Int)+1)=((i+1:Nat):Int):=(by grind [vw]);simp only[ah,lC,lZ,mc,me,ma,fA,bY,ag,gQ,ad6,Nat.reduceAdd,adW,exists_eq_left',ab8,ta,exists_eq_left',IS,adY,hld,e1,e2];refine⟨by omega,by omega,?_⟩;refine (aiU l hm T n (i+1) (64*v+(d.toNat-128)) ha.tail (by omega) (by omega) ?_).mono λx h' hx=>⟨hx.1,?_⟩
    .have h9:(64*v+(d.toNat-128)+1)*64^T.length<=((v+1)*64)*64^T.length:=aiM _ (by omega)
     grind
    grind [AO]
def aiV {z:Nat}{lo hi}(hz:z<=4):∀n i low high ,z-i<n->i<=4 ->
  Wp (iM n z lo hi low high i) h λx h'=>h'=h/\(z<=i->x=(low,high))
 |0,_,_,_,hn,_=>by omega
 |n+1,i,low,high,hn,hi4=>by
  rw[xF];unfold nX;refine eE.2 ⟨λe=>?_,λ_=>?_⟩
  .have e:=aiw e;have e2:IntKind.i64.wrap ((i:Int)+1)=((i+1:Nat):Int):=by grind [vw]
   rw[e2];exact (aiV hz n (i+1) _ _ (by omega) (by omega)).mono λx h' hx=>⟨hx.1,λhzi=>by omega⟩
  .rw[ag];grind
def ao7 {b o m cp}{cs}(l:LB h b cs gH){T}(ha:At cs (o+1) T)(hm:1+T.length=m)(hm4:m<=4){z v lo hi:Nat}(hz:z<=4)(hv:v<=31)(hn:6<=n) :
  Wp (eL n ⟨some ⟨b,o,none⟩,m,cp⟩ z v lo hi) h λx h'=>h'=h/\(x.2=(m:Int)↔(z=m/\T.all cont=true/\DV lo hi (AO v T))):=by
 unfold eL;have zero:¬(z=m/\T.all cont=true/\DV lo hi (AO v T))->Wp (AI ((0:Int),(0:Int))) h λx h'=>h'=h/\(x.2=(m:Int)↔(z=m/\T.all cont=true/\DV lo hi (AO v T))):=by
  intro hno;rw[ag]
  grind
 refine eE.2 ⟨λe=>?_,λe=>?_⟩
 .have e:=aiw e;exact zero (λq=>by grind)
 .rw[ah];have hpow:(v+1)*64^T.length<=1099511627776:=by
   have h1:64^T.length<=64^3:=Nat.pow_le_pow_right (by omega) (by omega);exact ad5 (apE (show v+1<=32 by omega) h1) (by decide)
  refine (aiU l hm4 T n 1 v ha hm (by omega) hpow).mono λx h' hx=>?_;obtain⟨rfl,rfl⟩:=hx;by_cases hall:T.all cont=true
  .rw[By hall];simp only[aK];rw[ah];refine (aiV hz n m _ _ (by omega) hm4).mono λy h2 hy=>?_;obtain⟨rfl,hy⟩:=hy;by_cases hzm:z=m
   .have hy:=hy (by omega);subst hy;simp only;refine eE.2 ⟨λe=>zero (λq=>?_),λe1=>eE.2 ⟨λe=>zero (λq=>?_),λe2=>eE.2 ⟨λe3=>eE.2 ⟨λe=>zero (λq=>?_),λe4=>?_⟩,λe3=>?_⟩⟩⟩
    .have e:=aiw e;have:=q.2.2.1;omega
    .have e:=aiw e;have:=q.2.2.2.1;omega
    .have e:=aiw e;have e3:=aiw e3;exact q.2.2.2.2 ⟨by omega,by omega⟩
    .simp only[ab8] at e1 e2 e3 e4;rw[ag];exact⟨rfl,λ_=>⟨hzm,hall,by omega,by omega,by omega⟩,λ_=>by grind⟩
    .simp only[ab8] at e1 e2 e3;rw[ag];exact⟨rfl,λ_=>⟨hzm,hall,by omega,by omega,by omega⟩,λ_=>by grind⟩
   .have zz:Wp (AI (y.1,(z:Int))) h2 λx h'=>h'=h2/\(x.2=(m:Int)↔(z=m/\T.all cont=true/\DV lo hi (AO v T))):=by
     rw[ag];grind
    have zo:=zero (λq=>hzm q.1);exact eE.2 ⟨λ_=>zo,λ_=>eE.2 ⟨λ_=>zo,λ_=>eE.2 ⟨λ_=>eE.2 ⟨λ_=>zo,λ_=>zz⟩,λ_=>zz⟩⟩⟩
  .rw[AT hall];simp only[aK];exact zero (λq=>hall q.2.1)
def bg {b o m cp}{cs}(l:LB h b cs gH){c}{T}(ha:At cs o (c::T))(hm:1+T.length=m)(hm4:m<=4)(hn:6<=n) :
  Wp (k7 n ⟨some ⟨b,o,none⟩,m,cp⟩) h λx h'=>h'=h/\(x.2=(m:Int)↔Ip (c::T)):=by
 have hld:=ha.ld l;have hlt:=c.toNat_lt;have J3:=@ao7 h n b o m cp cs l T ha.tail hm hm4;have hT:T=[]↔m=1:=⟨λe=>by grind,λe=>ahe (by omega)⟩;unfold k7;simp only[ah,lC,lZ,mc,me,ma,fA,bY,ag,gQ,ad6,Nat.reduceAdd,adW,exists_eq_left',ab8,ta,exists_eq_left',Int.toNat_zero,ap3,amh,hld,aqt (show c.toNat<=9223372036854775807 by omega)];refine⟨by omega,by omega,?_⟩;have J0:¬(T=[]/\c.toNat<128)->Wp (iP n ⟨some ⟨b,o,none⟩,m,cp⟩ (c.toNat:Nat) 0 0 0 0) h λx h'=>h'=h/\(x.2=(m:Int)↔Ip (c::T)):=by
  intro hno;unfold iP iO iN;have none':¬(192<=c.toNat/\c.toNat<248)->Wp (eL n ⟨some ⟨b,o,none⟩,m,cp⟩ 0 0 0 0) h λx h'=>h'=h/\(x.2=(m:Int)↔Ip (c::T)):=by
   intro hb;refine (J3 (z:=0) (v:=0) (lo:=0) (hi:=0) (by omega) (by omega) hn).mono λx h' hx=>⟨hx.1,hx.2.trans ⟨λe=>by omega,λe=>?_⟩⟩;rcases e with e|⟨_,e|e|e⟩
   .grind
   .grind
   .grind
   grind
  by_cases h1:192<=c.toNat/\c.toNat<248
  .by_cases h2:c.toNat<224
   .have w:IntKind.i64.wrap ((c.toNat:Int)-192)=((c.toNat-192:Nat):Int):=(by grind [vw]);rw[By (ai4 (by omega)),By (ai4 (by omega)),AT (by grind),AT (by grind),w];refine (J3 (z:=2) (lo:=128) (hi:=2047) (by omega) (by omega) hn).mono λx h' hx=>⟨hx.1,hx.2.trans ⟨λe=>?_,λe=>?_⟩⟩
    .exact .inr ⟨e.2.1,.inl ⟨by omega,by omega,h2,e.2.2⟩⟩
    .rcases e with e|⟨e0,e|e|e⟩
     .grind
     .grind
     .omega
     .omega
   .by_cases h3:c.toNat<240
    .have w:IntKind.i64.wrap ((c.toNat:Int)-224)=((c.toNat-224:Nat):Int):=(by grind [vw]);rw[By (ai4 (by omega)),AT (by grind),By (ai4 (by omega)),By (ai4 (by omega)),AT (by grind),w];refine (J3 (z:=3) (lo:=2048) (hi:=65535) (by omega) (by omega) hn).mono λx h' hx=>⟨hx.1,hx.2.trans ⟨λe=>?_,λe=>?_⟩⟩
     .exact .inr ⟨e.2.1,.inr (.inl ⟨by omega,by omega,h3,e.2.2⟩)⟩
     .rcases e with e|⟨e0,e|e|e⟩
      .grind
      .omega
      .grind
      .omega
    .have w:IntKind.i64.wrap ((c.toNat:Int)-240)=((c.toNat-240:Nat):Int):=(by grind [vw]);rw[By (ai4 (by omega)),AT (by grind),By (ai4 (by omega)),AT (by grind),By (ai4 (by omega)),By (ai4 (by omega)),w];refine (J3 (z:=4) (lo:=65536) (hi:=1114111) (by omega) (by omega) hn).mono λx h' hx=>⟨hx.1,hx.2.trans ⟨λe=>?_,λe=>?_⟩⟩
     .exact .inr ⟨e.2.1,.inr (.inr ⟨by omega,by omega,by omega,e.2.2⟩)⟩
     .rcases e with e|⟨e0,e|e|e⟩
      .grind
      .omega
      .omega
      grind
  .have nn:=none' h1;refine eE.2 ⟨λa1=>eE.2 ⟨λa2=>?_,λa2=>?_⟩,λa1=>?_⟩
   .simp at a1 a2;exact absurd ⟨by omega,by omega⟩ h1
   .refine eE.2 ⟨λa3=>eE.2 ⟨λa4=>?_,λa4=>?_⟩,λa3=>?_⟩
    .simp at a1 a4;exact absurd ⟨by omega,by omega⟩ h1
    .refine eE.2 ⟨λa5=>eE.2 ⟨λa6=>?_,λa6=>nn⟩,λa5=>nn⟩;simp at a1 a6;exact absurd ⟨by omega,by omega⟩ h1
    .simp only[ab8] at a1 a2 a3;omega
   .refine eE.2 ⟨λa3=>?_,λa3=>eE.2 ⟨λa5=>?_,λa5=>nn⟩⟩
    .simp only[ab8] at a1 a3;omega
    .simp only[ab8] at a1 a5;omega
 refine eE.2 ⟨λa1=>eE.2 ⟨λa2=>?_,λa2=>?_⟩,λa1=>?_⟩
 .have hm1:m=1:=by omega
  rw[ag];exact⟨rfl,λ_=>.inl ⟨hT.2 hm1,by omega⟩,λ_=>by grind⟩
 .exact J0 (λe=>a2 (by grind))
 .exact J0 (λe=>a1 (by omega))
def adE {s}{i}(hi:i<s.size):Mj s i<=4:=by
 by_cases h0:1<=Mj s i
 .have hw:Mj s i=wid (Utf8.decode s i):=rfl;have:=(VJ (decide (i+1<s.size)) (decide (i+2<s.size)) (decide (i+3<s.size)) (ao1 (s.get! i)) (ao1 (s.get! (i+1))) (ao1 (s.get! (i+2))) (ao1 (s.get! (i+3))) h0).1 (by grind [LA])
  grind [Fw]
 .omega
def adF (s:ζ) i k:Go.Sh.At (s.data.toList.map vb) i ((s.data.toList.drop i).take k):=λj d hd=>by
 grind
def aiW {s}{i b}(hi:i<s.size)(hs:s.size<=65536)(l:LB h b (s.data.toList.map vb) gH):∀n k ,1<=k->k<=5->(Mj s i=0\/k<=Mj s i)->12<=n+k ->
  Wp (jJ n i ⟨some ⟨b,0,none⟩,s.size,0⟩ k) h λx h'=>h'=h/\∃v:Int,x=if Mj s i=0 then .inl () else .inr (v,(Mj s i:Int))
 |0,k,_,hk,_,hn=>by omega
 |n+1,k,h1,hk,hw,hn=>by
  rw[AH];unfold rA;have w4:=adE hi;have e1:IntKind.i64.wrap ((i:Int)+k)=((i+k:Nat):Int):=by grind [vw]
  rw[e1];refine eE.2 ⟨λe=>?_,λe=>?_⟩
  .have e:=aiw e;refine eE.2 ⟨λe2=>?_,λe2=>?_⟩
   .have e2:=aiw e2;simp only at e2;unfold oZ;rw[e1,ah];have hz:(s.data.toList.drop i).length=s.size-i:=(by simp_all);refine rV (by omega) (by omega) (by grind) (by unfold mM;simp only[l.get];simp_all) ?_;have hsl:(⟨Option.map (λx=>x.plus ((i:Int).toNat*1)) (some (⟨b,0,none⟩:Addr)),((i+k:Nat):Int).toNat-(i:Int).toNat,0-(if (0:Nat)=0 then 0 else (i:Int).toNat)⟩:Sl)=⟨some ⟨b,i,none⟩,k,0⟩:=by
     grind [gQ]
    show Wp (sh (k7 n ⟨_,_,_⟩) _) h _;rw[hsl,ah];have hlen:((s.data.toList.drop i).take k).length=k:=(by grind);have hok:=OO hi h1 (by omega:k<=4);have hat:=adF s i k;cases hp:(s.data.toList.drop i).take k with
    |nil=>rw[hp] at hlen;simp at hlen;omega
    |cons c T=>
     rw[hp] at hlen hok hat;simp at hlen;refine (bg l hat (by omega) (by omega) (by omega)).mono λx h' hx=>?_;obtain⟨he,hx⟩:=hx;have he:=he.symm;subst he;by_cases hwk:Mj s i=k
     .have:=hx.2 (hok.2 hwk).2;rw[By (ai4 this),ag]
      grind
     .have hne:¬x.2=(k:Int):=λe=>hwk (hok.1 ⟨by omega,hx.1 e⟩);rw[AT (by grind)];have e3:IntKind.i64.wrap ((k:Int)+1)=((k+1:Nat):Int):=(by grind [vw]);rw[e3];exact aiW hi hs l n (k+1) (by omega) (by omega) (by omega) (by omega)
   .simp only[ab8] at e2;have h0:Mj s i=0:=by
     rcases hw with h|h
     .exact h
     .by_cases hz:Mj s i=0
      .exact hz
      .have:=((OO hi (by omega) w4).2 rfl).1;omega
    rw[ag];simp_all
  .simp only[ab8] at e;have h0:Mj s i=0:=by omega
   rw[ag];simp_all
def ao8 {s:ζ}{i}(hi:i<s.size)(hs:s.size<=65536)(hn:12<=n)(hw:WF h):Wp (tg n s i) h λx h'=>x.2=(Mj s i:Int)/\Fr (λ_=>False) h h':=by
 unfold tg;have f1:=Fr.new (e:=gH) (cs:=s.data.toList.map vb) hw;have l1:=LB.new (h:=h) (e:=gH) (cs:=s.data.toList.map vb);rw[ah];have hb:Wp (Ao gH s) h λx h'=>x=⟨some ⟨h.next,0,none⟩,s.size,0⟩/\h'=h.new gH (s.data.toList.map vb):=
  ⟨_,_,by unfold Ao;rw[By (by grind [bJ])];rfl,rfl,rfl⟩
 refine hb.mono λx h1 hx=>?_;obtain⟨rfl,rfl⟩:=hx;rw[ah];refine (aiW hi hs l1 n 1 (by omega) (by omega) (by omega) (by omega)).mono λx h' hx=>?_;obtain⟨rfl,v,rfl⟩:=hx;by_cases h0:Mj s i=0
 .rw[By h0];simp[aK];rw[ag];grind
 .rw[AT h0];simp[aK];rw[ag];grind
structure OwD (h0 h:aj) (s:Sl) (e:κ) (k:Nat):Prop where
 fr:Fr (λ_=>False) h0 h
 own:∃cs g,nv h s 1 e cs g/\(g=0\/h0.next<g)
 len:s.len=k
def OwD.nil {h0}(hw:WF h0){e}:OwD h0 h0 oz e 0:=⟨Fr.refl hw,⟨[],0,nv.nil,.inl rfl⟩,rfl⟩
def OwD.go {h0 h h'}{s}{e}{k}(o:OwD h0 h s e k)(hw:WF h0)(f:Fr (λ_=>False) h h'):OwD h0 h' s e k:=by
 obtain⟨cs,g,o1,o2⟩:=o.own;exact⟨o.fr.fresh hw f (λ_ h=>h.elim),⟨cs,g,o1.fr f (λh=>h.elim),o2⟩,o.len⟩
def OwD.aqu {h0 h}{s}{e}{k}{v}(hw:WF h0)(o:OwD h0 h s e k)(hb:k+1<=bJ){Q}(hq:∀s' h',OwD h0 h' s' e (k+1)->Q s' h') :
  Wp (Ago.app false s 1 e 1 [v]) h Q:=by
 obtain⟨cs,g,o1,hg⟩:=o.own;have hl:=o.len;refine nv.app o1 o.fr.wf (by omega) (by simp) (by omega) λs' h' g' h1 h2 h3 h4 f=>hq s' h' ⟨o.fr.trans hw f λg2 e h0'=>?_,⟨_,g',by simpa using h3,?_⟩,by omega⟩
 .grind
 .have:=o.fr.next
  grind
def ag6 {s}{i}(hi:i<s.size):rY s (s.size+1) i=if Mj s i=0 then some i else rY s (s.size+1) (i+Mj s i):=by
 have hwp:=width_pos s i hi;rw[rY,By hi];unfold Mj;by_cases hb:(Utf8.decode s i).1=65533/\(Utf8.decode s i).2=1
 .grind
 .rw[AT hb,AT hb,AT (by omega)]
  grind [NK]
def M5 {s}(hs:s.size<=65536){h0}(hw:WF h0):∀n i k h sl ,OwD h0 h sl ahs k->k<=i->i<=s.size->s.size-i+20<n ->
  Wp (iY n s sl i) h λx h'=>Fr (λ_=>False) h0 h'/\match rY s (s.size+1) i with
   |none=>∃sl',x=.inl sl'
   |some p=>∃sl',x=.inr (sl',(p:Int))
 |0,_,_,_,_,_,_,_,hn=>by omega
 |n+1,i,k,h,sl,o,hk,hi,hn=>by
  have hsucc:iY (n+1)=oj (iY n) n:=rfl;rw[hsucc];unfold oj;refine eE.2 ⟨λe=>?_,λe=>?_⟩
  .have e:=aiw e;have hlt:i<s.size:=by omega
   rw[ah];refine (ao8 hlt hs (by omega) o.fr.wf).mono λx h1 hx=>?_;obtain⟨hx,f1⟩:=hx;have o1:=o.go hw f1;rw[ag6 hlt];by_cases h0:Mj s i=0
   .rw[By (ai4 (by omega)),ag,By h0];exact⟨o1.fr,sl,rfl⟩
   .rw[AT (by grind),AT h0,ah];refine o1.aqu hw (by grind [bJ]) λs' h2 o2=>?_;have w4:=adE hlt;have hle:=((OO hlt (by omega) w4).2 rfl).1;have e1:IntKind.i64.wrap ((i:Int)+x.2)=((i+Mj s i:Nat):Int):=(by grind [vw]);rw[e1];exact M5 hs hw n (i+Mj s i) (k+1) h2 s' o2 (by omega) hle (by omega)
  .simp only[ab8] at e;rw[ag,rY,AT (by omega)];exact⟨o.fr,sl,rfl⟩
def ag7 {s}(hs:s.size<=65536)(hn:s.size+20<n)(hw:WF h):Wp (pY n s) h λx h'=>x=u8 s/\Fr (λ_=>False) h h':=by
 unfold pY sE;simp[ah];refine (M5 hs hw n 0 0 h oz (OwD.nil hw) (by omega) (by omega) (by omega)).mono λx h' hx=>?_;obtain⟨f,hx⟩:=hx;unfold u8;cases hc:rY s (s.size+1) 0 with
 |none=>
  rw[hc] at hx;obtain⟨sl',rfl⟩:=hx;simp only[aK,ag]
  grind
 |some p=>
  rw[hc] at hx;obtain⟨sl',rfl⟩:=hx;simp only[aK,ag]
  grind
def GM {s:ζ}(hs:s.size<=65536):∀n i h ,i<=s.size->s.size-i<n ->
  Wp (fk n s i) h λx h'=>h'=h/\x=if (s.data.toList.drop i).all pD=true then .inl () else .inr false
 |0,_,_,_,hn=>by omega
 |n+1,i,h,hi,hn=>by
  rw[yD];unfold oT;simp only[ah,lC,lZ,mc,me,ma,fA,bY,ag,gQ,ad6,Nat.reduceAdd,adW,exists_eq_left',ab8];refine eE.2 ⟨λh1=>?_,λh1=>?_⟩
  .have h1':i<s.size:=by omega
   have hc:s.data.toList[i]?=some s.data.toList[i]:=adg (by simp_all);generalize s.data.toList[i]=c at hc;have had:=Qt hc;rw[MP] at had;simp only[ah,lC,lZ,mc,me,ma,fA,bY,ag,gQ,ad6,Nat.reduceAdd,adW,exists_eq_left',ab8,za,IS,hc,ajm,aoL];refine eE.2 ⟨λh2=>?_,λh2=>?_⟩
   .have hb:(s.data.toList.drop i).all pD=false:=(by grind);rw[ag,hb];grind
   .simp only[ah,lC,lZ,mc,me,ma,fA,bY,ag,gQ,ad6,Nat.reduceAdd,adW,exists_eq_left',ab8,za,IS,hc,ajm,aoL];refine eE.2 ⟨λh3=>?_,λh3=>?_⟩
    .have hb:(s.data.toList.drop i).all pD=false:=(by grind);rw[ag,hb];grind
    .have e2:IntKind.i64.wrap ((i:Int)+1)=(i+1:Nat):=(by grind [vw]);rw[e2];refine (GM hs n (i+1) h h1' (by omega)).mono λx h2 hx=>?_
     grind
  .rw[ag,aco (by simp_all)]
   grind
def FL {s:ζ}(hs:s.size<=65536){a}(ha:a<=s.size)(hn:s.size<n):Wp (gF n s a) h λx h'=>h'=h/\x=Jj s.size (s.data.toList.drop a):=by
 unfold gF;have hl:(s.data.toList.drop a).length=s.size-a:=by simp_all
 simp;refine eE.2 ⟨λh1=>?_,λh1=>?_⟩
 .have h0:(s.data.toList.drop a).length=0:=by omega
  rw[ag];exact⟨rfl,by grind [Jj]⟩
 .have e1:IntKind.i64.wrap ((s.size:Int)-a)=(s.size-a:Nat):=by grind [vw]
  rw[e1];refine eE.2 ⟨λh2=>?_,λh2=>?_⟩
  .have h0:¬(s.data.toList.drop a).length<=400:=by omega
   rw[ag];exact⟨rfl,by grind [Jj,decide_eq_false]⟩
  .have h3:(s.data.toList.drop a).length≠0:=by omega
   have h4:(s.data.toList.drop a).length<=400:=by omega
   obtain⟨c,hc⟩:=ao6 (s:=s) (i:=a) (by omega);have hh:(s.data.toList.drop a).head?=some c:=by simp_all
   have hcc:((c.toNat:Int)=48)↔c=48:=VI c 48 (by omega);have good:Jj s.size (s.data.toList.drop a)=(s.data.toList.drop a).all pD->Wp (sh (fk n s a) (aK (λx1=>AI true) (λx1=>AI x1))) h λx h'=>h'=h/\x=Jj s.size (s.data.toList.drop a):=by
    intro hg;rw[ah];refine (GM hs n a h ha (by omega)).mono λx h2 hx=>?_;obtain⟨rfl,rfl⟩:=hx;rw[hg];cases (s.data.toList.drop a).all pD
    .exact⟨_,_,rfl,rfl,rfl⟩
    .exact⟨_,_,rfl,rfl,rfl⟩
   simp[ah,lC,lZ,mc,me,ma,fA,bY,ag,gQ,ad6,Nat.reduceAdd,adW,exists_eq_left',ab8,za,IS,hc,ajm,aoL];by_cases h5:c=48
   .rw[By (hcc.2 h5)];refine eE.2 ⟨λh6=>?_,λh6=>?_⟩
    .rw[ag];exact⟨rfl,by grind [Jj]⟩
    .have:=good (by grind [Jj]);simpa[exists_eq_left'] using this
   .rw[AT (λe=>h5 (hcc.1 e))];have:=good (by grind [Jj]);simpa[exists_eq_left'] using this
def ag8 {s}(hs:s.size<=65536)(hn:s.size<n):Wp (pN n s) h λx h'=>h'=h/\x=qe s:=by
 unfold pN;have hl:s.data.toList.length=s.size:=nB s;have e0:qe s=Jj s.size (if 1<s.data.toList.length/\s.data.toList.head?=some 45 then s.data.toList.tail else s.data.toList):=rfl;rw[e0,hl];refine eE.2 ⟨λh1=>?_,λh1=>?_⟩
 .have h1:=aiw h1;have hc:s.data.toList[0]?=some s.data.toList[0]:=adg (by omega);generalize s.data.toList[0]=c at hc;have hh:s.data.toList.head?=some c:=by grind [List.head?_eq_getElem?]
  have hcc:((c.toNat:Int)=45)↔c=45:=VI c 45 (by omega);rw[hh];simp[ah,lC,lZ,mc,me,ma,fA,bY,ag,gQ,ad6,Nat.reduceAdd,adW,exists_eq_left',ab8,za,Int.toNat_zero,hc,ajl,aoL];refine eE.2 ⟨λh2=>?_,λh2=>?_⟩
  .have h3:=hcc.1 h2;refine (FL (a:=1) hs (by omega) hn).mono λx h' hx=>⟨hx.1,?_⟩;rw[hx.2,h3];by_cases h4:1<s.size
   .simp_all
   .rw[AT (λe=>h4 e.1)];have h5:s.data.toList=[45]:=by
     match hL:s.data.toList with
     |[]=>grind
     |[d]=>grind
     |d::e::_=>grind
    rw[h5];unfold Jj;simp[pD]
  .refine (FL (a:=0) hs (by omega) hn).mono λx h' hx=>⟨hx.1,?_⟩
   grind
 .have h1:¬(0:Int)<s.size:=λe=>h1 (ai4 e);refine (FL (a:=0) hs (by omega) hn).mono λx h' hx=>⟨hx.1,?_⟩
  grind
end Go.Sh
namespace Go.Sh
open Go Go.Ago Go.Proofs
variable {α β:Type}{h h' h0:aj}{L:List bA}{Q:β->aj->Prop}{N:List ao}{s:Sl}{root:Int}{x:ao}
def anh {m}{k}{t}{o}{ks is}{xs}(ii:IL h0 is xs)(hx:∀v∈xs,IR m v)(hl:xs.length<1073741824){b} :
  ∀n i ,xs.length-i<n->i<=xs.length->Z h0 h (.au b [vi k,.string t,.bool o,aA ks,aA is] ar::L)->Wp (j9 n (m:Int) (ak b) (i:Int)) h λy h'=>y=.inl ()/\h'=h:=by
 intro n
 induction n with
 |zero=>intro i h1;omega
 |succ n ih=>
  intro i h1 h2 z;rw[zn];unfold p8;refine z.ld 0 (x:=is) ?_;rw[ii.len];by_cases hi:i<xs.length
  .rw[By (by grind)];obtain⟨v,hv⟩:=cG hi;have hr:=hx v (BY hv);unfold IR at hr;refine z.ld 0 (x:=is) ?_;refine (ii.fr z.fr).ix (by omega) (by simpa using hv) λa g cl=>cl.mN rfl rfl ?_;rw[AT (by grind)];refine z.ld 0 (x:=is) ?_;refine (ii.fr z.fr).ix (by omega) (by simpa using hv) λa g cl=>cl.mN rfl rfl ?_;rw[AT (by grind),pA h2 (by omega)];exact ih (i+1) (by omega) (by omega) z
  .rw[AT (by grind),ag]
   grind
def ani {m}{k}{t}{o}{ks is}{xs}(ii:IL h0 ks xs)(hx:∀v∈xs,IR m v)(hl:xs.length<1073741824){b} :
  ∀n i ,xs.length-i<n->i<=xs.length->Z h0 h (.au b [vi k,.string t,.bool o,aA ks,aA is] ar::L)->Wp (j8 n (m:Int) (ak b) (i:Int)) h λy h'=>y=.inl ()/\h'=h:=by
 intro n
 induction n with
 |zero=>intro i h1;omega
 |succ n ih=>
  intro i h1 h2 z;rw[zm];unfold p7;refine z.ld 0 (x:=ks) ?_;rw[ii.len];by_cases hi:i<xs.length
  .rw[By (by grind)];obtain⟨v,hv⟩:=cG hi;have hr:=hx v (BY hv);unfold IR at hr;refine z.ld 0 (x:=ks) ?_;refine (ii.fr z.fr).ix (by omega) (by simpa using hv) λa g cl=>cl.mN rfl rfl ?_;rw[AT (by grind)];refine z.ld 0 (x:=ks) ?_;refine (ii.fr z.fr).ix (by omega) (by simpa using hv) λa g cl=>cl.mN rfl rfl ?_;rw[AT (by grind),pA h2 (by omega)];exact ih (i+1) (by omega) (by omega) z
  .rw[AT (by grind),ag]
   grind
def adG (z:Z h0 h L){k}{t}(ht:t.size<=65536)(h2:k=2->qe t=true)(h5:k=5->u8 t=true)(hk:k=2\/k=5\/k=6){n}(hn:65600<n):Wp (oF n k t) h λy h'=>y=true/\Z h0 h' L:=by
 unfold oF;rcases hk with rfl|rfl|rfl
 .rw[AT (by decide),AT (by decide),By (by decide),ah];refine (ag8 ht (by omega)).mono λy h' hy=>ag.2 ?_
  grind
 .rw[AT (by decide),AT (by decide),AT (by decide),AT (by decide),AT (by decide),By (by decide),ah];refine (ag7 ht (by omega) z.wf).mono λy h' hy=>ag.2 ?_;obtain⟨rfl,f⟩:=hy;exact⟨h5 rfl,z.pure f⟩
 .rw[AT (by decide),AT (by decide),AT (by decide),AT (by decide),AT (by decide),AT (by decide),By (by decide)];exact ag.2 ⟨rfl,z⟩
def adH (z:Z h0 h L){m}{ks is}(ik:IL h0 ks x.keys)(ii:IL h0 is x.items)(hk:PK N x)(hf:ji x=some true)(hx:(∀v∈x.keys,IR m v)/\∀v∈x.items,IR m v)(hl:x.keys.length<=80/\x.items.length<=80)(ht:x.text.size<=65536){n}(hn:65600<n) :
  Wp (rb n (x.kind,x.text,x.ord,ks,is) (m:Int)) h λy h'=>y=true/\Z h0 h' L:=by
 unfold rb;refine z.new λb h1 z _=>?_;rw[ah];refine (anh ii hx.2 (by omega) n 0 (by omega) (aea _) z).mono λy h2 hy=>?_;obtain⟨rfl,rfl⟩:=hy;simp only[aK];rw[ah];refine (ani ik hx.1 (by omega) n 0 (by omega) (aea _) z).mono λy h3 hy=>?_;obtain⟨rfl,rfl⟩:=hy;simp only[aK];have e0:oG (ofBytes []) (ofBytes [])=true:=by rw[s9];simp
 refine z.ld 0 (x:=x.kind) ?_;by_cases h10:x.kind=10
 .rw[AT (by grind)];unfold kc;refine z.ld 0 (x:=x.kind) ?_;rw[AT (by grind),By (by grind)];refine z.ld 0 (x:=x.text) ?_;rw[adx hf h10,By e0];refine z.ld 0 (x:=ks) ?_;refine z.ld 0 (x:=is) ?_;rw[ag];refine⟨?_,z.drop⟩;unfold ji at hf;rw[AT (by omega),By h10] at hf;simp at hf;rw[ik.len,ii.len,hf.2];simp
 .rw[By (by grind)];refine z.ld 0 (x:=x.ord) ?_;have hh:x.ord=false/\x.keys=[]/\(x.kind≠9->x.items=[]):=by
   by_cases h9:x.kind=9
   .grind [MZ,absurd]
   .have:=GL hf h9 h10 (by rcases hk with h|h|h|h|⟨h,_⟩<;>omega)
    grind
  rw[hh.1,AT (by simp)];have z0:Z h0 h3 (.au b [vi x.kind,.string x.text,.bool x.ord,aA ks,aA is] ar::L):=z;refine z0.ld 0 (x:=ks) ?_;rw[ik.len,hh.2.1,AT (by simp)];unfold kc;refine z0.ld 0 ?_;by_cases h9:x.kind=9
  .rw[By (by simp[h9])];refine z0.ld 0 ?_;rw[(MZ hf h9).1,ag];exact⟨e0,z0.drop⟩
  .have h11:x.kind≠11:=by rcases hk with h|h|h|h|⟨h,_⟩<;>omega
   rw[AT (by simp[h9]),AT (by grind),AT (by grind)];refine z0.ld 0 (x:=is) ?_;rw[ii.len,hh.2.2 h9,By (by simp)];refine z0.ld 0 ?_;refine z0.ld 0 ?_;rw[ah];refine (adG z0 ht (aiT hf) (adv hf) (by rcases hk with h|h|h|h|⟨h,_⟩<;>omega) hn).mono λy h4 hy=>ag.2 ?_;exact⟨hy.1,hy.2.drop⟩
def ao9 (G:iK h0 s N)(hB:Bd N 80)(hk:∀x∈N,PK N x)(hf:∀x∈N,ji x=some true)(hI:qA N N.length)(ht:∀x∈N,x.text.size<=65536){x0} :
  ∀n i h ,N.length-i+65601<n->i<=N.length->Z h0 h (.au x0 [aA s,vi root] ai::L)->Wp (fN n (ak x0) (N.length:Int) (i:Int)) h λy h'=>y=.inl ()/\Z h0 h' (.au x0 [aA s,vi root] ai::L):=by
 have hNB:=hB.1;intro n
 induction n with
 |zero=>intro i h h1;omega
 |succ n ih=>
  intro i h h1 h2 z;rw[vh];unfold kR;by_cases hi:i<N.length
  .rw[By (by grind)];obtain⟨x,hx⟩:=cG hi;have hm:=BY hx;refine z.ld 0 (x:=s) ?_;refine G.at z (by omega) (by simpa using hx) λa ks is nd ik ii=>nd.eZ ?_;rw[ah];refine (adH z ik ii (hk x hm) (hf x hm) (hI x hm) (hB.2.2 x hm) (ht x hm) (by omega)).mono λy h3 hy=>?_;obtain⟨rfl,z⟩:=hy;rw[AT (by simp),pA h2 (by omega)];exact ih (i+1) h3 (by omega) (by omega) z
  .rw[AT (by grind),ag]
   grind
def apa {ms ks}{cs}(hN:N.length<1073741824)(l1:ms.length=N.length)(l2:cs.length=N.length)(l3:ks.length=N.length)(hm:∀v,IR N.length v->gt ms v=some true)(hc:∀v,gt ks v=some true->gt cs v=some 1){b1 b2 b3 c1 c2 c3} :
  ∀n i ,N.length-i<n->i<=N.length->Z h0 h (.au b3 (ks.map Value.bool) e9::.au b2 (cs.map vi) an::.au b1 (ms.map Value.bool) e9::L) ->
   Wp (fM n (N.length:Int) ⟨some ⟨b1,0,none⟩,N.length,c1⟩ ⟨some ⟨b2,0,none⟩,N.length,c2⟩ ⟨some ⟨b3,0,none⟩,N.length,c3⟩ (i:Int)) h λy h'=>y=.inl ()/\h'=h:=by
 intro n
 induction n with
 |zero=>intro i h1;omega
 |succ n ih=>
  intro i h1 h2 z;rw[vg];unfold kQ;by_cases hi:i<N.length
  .rw[By (by grind)];have e1:=hm (i:Int) ⟨by omega,by omega⟩;rw[tO] at e1;obtain⟨v,ev⟩:=cG (l:=ks) (i:=i) (by omega);refine ze (by omega) (by omega) ?_;rw[IS,adY];refine z.ld 2 ?_ rfl (by rw[abt,e1];rfl) rfl;rw[AT (by simp)];refine ze (by omega) (by omega) ?_;rw[IS,adY];refine z.ld 0 ?_ rfl (by rw[abt,ev];rfl) rfl;cases v with
   |true=>
    have e2:=hc (i:Int) (by rw[tO,ev]);rw[tO] at e2;rw[By (by rfl)];refine ze (by omega) (by omega) ?_;rw[IS,adY];refine z.ld 1 (x:=1) ?_ rfl (by rw[abt,e2];rfl) rfl;rw[AT (by simp),pA h2 (by omega)];exact ih (i+1) (by omega) (by omega) z
   |false=>
    rw[AT (by simp),pA h2 (by omega)];exact ih (i+1) (by omega) (by omega) z
  .rw[AT (by grind),ag]
   grind
def Mk (z:Z h0 h L)(G:iK h0 s N)(hB:Bd N 80)(g:GV N root)(hk:∀x∈N,PK N x)(ht:∀x∈N,x.text.size<=65536){n}(hn:65700<n) :
  Wp (kD n (s,root)) h λy h'=>y=true/\Z h0 h' L:=by
 have hNB:=hB.1;have hr:=g.rt;have hr2:=g.rt;unfold IR at hr2;unfold kD;refine z.new λx0 h1 z _=>?_;refine z.ld 0 (x:=s) ?_;rw[G.len,AT (by grind)];refine z.ld 0 (x:=root) ?_;rw[AT (by grind)];refine z.ld 0 (x:=root) ?_;rw[AT (by grind)];unfold mw;rw[ah];refine (ao9 G hB hk g.fm g.ix ht n 0 h1 (by omega) (aea _) z).mono λy h2 hy=>?_;obtain⟨rfl,z⟩:=hy;simp[aK];refine z.eZ 0 (ls:=[.sl,li]) (x:=(s,root)) ?_;refine z.ld 0 (x:=root) ?_;refine z.eZ 0 (ls:=[.sl,li]) (x:=(s,root)) ?_;refine z.eZ 0 (ls:=[.sl,li]) (x:=(s,root)) ?_;refine rQ (λa ha=>?_) (Lz z G g.ix hB hr (by omega)) λr h3 hy=>?_
 .simp at ha;subst ha;exact⟨_,_,z.get 0 rfl,λr h' ⟨b,ms,_,_,z⟩=>z.get 1 rfl⟩
 obtain⟨b1,ms,rfl,rm,z⟩:=hy;refine rQ (λa ha=>?_) (YQ z G g.ix hr hB (by omega)) λr h4 hy=>?_
 .simp at ha;subst ha;exact⟨_,_,z.get 1 rfl,λr h' ⟨b,ms,_,_,_,z⟩=>z.get 2 rfl⟩
 obtain⟨b2,cs,rfl,lc,hc,z⟩:=hy;rw[ah];refine (YS z G g.ix hB (by omega)).mono λr h5 hy=>?_;obtain⟨b3,ks,rfl,lk,hk3,z⟩:=hy;rw[ah];refine (apa (by omega) rm.1 lc lk (λv hv=>(rm.2 v).2 (g.Yr v hv)) (λv hv=>?_) n 0 (by omega) (aea _) z).mono λy h6 hy=>?_
 .have kn:=(hk3 v).1 hv;rw[hc v (by grind [kF]),g.one v kn];rfl
 obtain⟨rfl,rfl⟩:=hy;simp[aK];rw[ag];exact⟨rfl,z.drop.drop.drop.drop⟩
end Go.Sh
namespace Go.Sh
open Go Go.Ago Go.Proofs
variable {α β:Type}{h h' h0:aj}{L:List bA}{Q:β->aj->Prop}
def M6 {α:Type}{l l':List α}{i:Nat}{x:α}(hx:l[i]?=some x)(hx':l'[i]?=some x)(e:l.take i=l'.take i):l.take (i+1)=l'.take (i+1):=by
 grind [List.take_succ]
def adI {s1 s2:Sl}{xs ys:ε}(i1:IL h s1 xs)(i2:IL h s2 ys)(he:xs.length=ys.length)(hl:xs.length<1073741824) :
  ∀(n i:Nat),xs.length-i<n->i<=xs.length->xs.take i=ys.take i->Wp (jX n s1 s2 (i:Int)) h λy h'=>((y=.inl ()/\xs=ys)\/(y=.inr false/\xs≠ys))/\h'=h:=by
 intro n
 induction n with
 |zero=>intro i h1;omega
 |succ n ih=>
  intro i h1 h2 ht;rw[zj];unfold pP;rw[i1.len];by_cases hi:i<xs.length
  .rw[By (by simp;omega)];obtain⟨x,hx⟩:=cG hi;obtain⟨y,hy⟩:=cG (l:=ys) (i:=i) (by omega);refine i1.ix (by omega) (by simpa using hx) λa1 g1 c1=>?_;refine i2.ix (by omega) (by simpa using hy) λa2 g2 c2=>?_;refine c1.mN rfl rfl (c2.mN rfl rfl ?_);by_cases e:x=y
   .subst e;rw[AT (by simp),pA h2 (by omega)];exact ih (i+1) (by omega) (by omega) (M6 hx hy ht)
   .rw[By (by simpa using e),ag]
    grind
  .rw[AT (by simp;omega),ag]
   grind
def Rc {s1 s2:Sl}{xs ys:ε}(i1:IL h s1 xs)(i2:IL h s2 ys)(hl:xs.length<1073741824){n:Nat}(hn:xs.length<n):Wp (nE n s1 s2) h λy h'=>(y=true↔xs=ys)/\h'=h:=by
 unfold nE;rw[i1.len,i2.len];by_cases he:xs.length=ys.length
 .rw[AT (by simp[he]),ah];refine (adI i1 i2 he hl n 0 (by omega) (by omega) rfl).mono λy h' hy=>?_;obtain⟨hy,rfl⟩:=hy;rcases hy with⟨rfl,e⟩|⟨rfl,e⟩
  .exact ag.2 ⟨⟨λ_=>e,λ_=>rfl⟩,rfl⟩
  .exact ag.2 ⟨⟨λh=>(by cases h),λh=>absurd h e⟩,rfl⟩
 .rw[By (by simp;omega),ag]
  grind
def adJ {x y:ao}(h1:x.kind=y.kind)(h2:x.text=y.text)(h3:x.ord=y.ord)(h4:x.keys=y.keys)(h5:x.items=y.items):x=y:=by
 cases x;simp_all
theorem GN (a b:ζ):oG a b=true↔a=b:=⟨A8,λe=>by grind [s9]⟩
def YU {s1 s2:Sl}{r:Int}{N M:List ao}(G1:iK h0 s1 N)(G2:iK h0 s2 M)(he:N.length=M.length){B:Nat}(hB:Bd N B)(hB2:Bd M B){b0 b1:Nat} :
  ∀(n i:Nat) (h:aj) (L:List bA),N.length-i+B+2<n->i<=N.length->N.take i=M.take i->Z h0 h (.au b1 [aA s2,vi r] ai::.au b0 [aA s1,vi r] ai::L) ->
   Wp (gj n (ak b0) (ak b1) (i:Int)) h λy h'=>((y=.inl ()/\N=M)\/(y=.inr false/\N≠M))/\Z h0 h' (.au b1 [aA s2,vi r] ai::.au b0 [aA s1,vi r] ai::L):=by
 have hBB:=hB.2.1;have hNB:=hB.1;intro n
 induction n with
 |zero=>intro i h L h1;omega
 |succ n ih=>
  intro i h L h1 h2 ht z;rw[vP];unfold lM;refine z.ld 1 (x:=s1) ?_;rw[G1.len];by_cases hi:i<N.length
  .rw[By (by simp;omega)];obtain⟨x,hx⟩:=cG hi;obtain⟨y,hy⟩:=cG (l:=M) (i:=i) (by omega);have hb:=hB.2.2 x (BY hx);have hb2:=hB2.2.2 y (BY hy);have no:x≠y->N≠M:=λe h=>e (by grind);refine z.bX [10,11] (by decide) (by decide) λnb h3 z=>?_;refine z.ld 3 (x:=s1) ?_;refine G1.Wf z (by omega) (by simpa using hx) λa1 k1 j1 n1=>(n1.fr z.fr).eZ ?_;refine z.ld 2 (x:=s2) ?_;refine G2.Wf z (by omega) (by simpa using hy) λa2 k2 j2 n2=>(n2.fr z.fr).eZ ?_;refine z.newAt 0 λh4 z=>z.newAt 1 λh5 z=>?_;refine z.stC 0 ?_ λh6 z=>z.st 1 λh7 z=>?_
   .intro a' ha';simp at ha';rcases ha' with rfl|rfl
    .exact z.nbO 0 2 rfl rfl (by decide)
    .obtain⟨g,c⟩:=n2.cl;exact z.nb0 0 c rfl
   refine z.ld 0 (x:=x.kind) ?_;refine z.ld 1 (x:=y.kind) ?_;by_cases c1:x.kind=y.kind
   rotate_left
   .rw[By (by simpa using c1),ag];exact⟨.inr ⟨rfl,no λe=>c1 (by rw[e])⟩,z.drop.drop⟩
   rw[AT (by simpa using c1)];refine z.ld 0 (x:=x.text) ?_;refine z.ld 1 (x:=y.text) ?_;by_cases c2:x.text=y.text
   rotate_left
   .rw[By (by grind [GN]),ag];exact⟨.inr ⟨rfl,no λe=>c2 (by rw[e])⟩,z.drop.drop⟩
   rw[AT (by grind [GN])];refine z.ld 0 (x:=x.ord) ?_;refine z.ld 1 (x:=y.ord) ?_;by_cases c3:x.ord=y.ord
   rotate_left
   .rw[By (by simpa using c3),ag];exact⟨.inr ⟨rfl,no λe=>c3 (by rw[e])⟩,z.drop.drop⟩
   rw[AT (by simpa using c3)];refine z.ld 0 (x:=k1) ?_;refine z.ld 1 (x:=k2) ?_;rw[ah];refine (Rc (n1.keys.fr z.fr) (n2.keys.fr z.fr) (by omega) (by omega)).mono λq h8 hq=>?_;obtain⟨hq,rfl⟩:=hq;by_cases c4:x.keys=y.keys
   rotate_left
   .have e:q=false:=by
     grind
    subst e;rw[By (by rfl),ag];exact⟨.inr ⟨rfl,no λe=>c4 (by rw[e])⟩,z.drop.drop⟩
   obtain rfl:q=true:=hq.2 c4;rw[AT (by simp)];refine z.ld 0 (x:=j1) ?_;refine z.ld 1 (x:=j2) ?_;rw[ah];refine (Rc (n1.items.fr z.fr) (n2.items.fr z.fr) (by omega) (by omega)).mono λq h9 hq=>?_;obtain⟨hq,rfl⟩:=hq;by_cases c5:x.items=y.items
   rotate_left
   .have e:q=false:=by
     grind
    subst e;rw[By (by rfl),ag];exact⟨.inr ⟨rfl,no λe=>c5 (by rw[e])⟩,z.drop.drop⟩
   obtain rfl:q=true:=hq.2 c5;rw[AT (by simp),pA h2 (by omega)];have exy:x=y:=adJ c1 c2 c3 c4 c5;subst exy;exact ih (i+1) h9 L (by omega) (by omega) (M6 hx hy ht) z.drop.drop
  .rw[AT (by simp;omega),ag]
   grind
def YV {s1 s2:Sl}{r:Int}{N M:List ao}(z:Z h0 h L)(G1:iK h0 s1 N)(G2:iK h0 s2 M){B:Nat}(hB:Bd N B)(hB2:Bd M B){n:Nat}(hn:2*B+3<n) :
  Wp (lN n (s1,r) (s2,r)) h λy h'=>(y=true↔N=M)/\Z h0 h' L:=by
 have hNB:=hB.1;unfold lN;refine z.new λb0 h1 z _=>z.new λb1 h2 z _=>?_;refine z.ld 1 (x:=s1) ?_;refine z.ld 0 (x:=s2) ?_;rw[G1.len,G2.len];by_cases he:N.length=M.length
 .rw[AT (by simp[he])];refine z.ld 1 (x:=r) ?_;refine z.ld 0 (x:=r) ?_;rw[AT (by simp),ah];refine (YU G1 G2 he hB hB2 n 0 h2 L (by omega) (by omega) rfl z).mono λy h3 hy=>?_;obtain⟨hy,z⟩:=hy;rcases hy with⟨rfl,e⟩|⟨rfl,e⟩
  .exact ag.2 ⟨⟨λ_=>e,λ_=>rfl⟩,z.drop.drop⟩
  .exact ag.2 ⟨⟨λh=>(by cases h),λh=>absurd h e⟩,z.drop.drop⟩
 .rw[By (by simp;omega),ag];exact⟨⟨λh=>(by cases h),λh=>absurd (an1 List.length h) he⟩,z.drop.drop⟩
end Go.Sh
namespace Go.Sh
open Go Go.Ago Go.Proofs
variable {α β:Type}{h h' h0:aj}{L:List bA}{Q:β->aj->Prop}{N:List ao}{s:Sl}{root:Int}{x:ao}
def FM a b:ofBytes a++ofBytes b=ofBytes (a++b):=by
 apply apT;unfold ofBytes;simp
def ag9 t:ofBytes t.data.toList=t:=by
 apply apT
 grind [ofBytes]
theorem sw l:(ofBytes l).size=l.length:=rfl
def adK {d}(hd:d<10):(ofBytes [48,49,50,51,52,53,54,55,56,57]).extract d (d+1)=ofBytes [UInt8.ofNat (48+d)]:=by
 rw[<-EV];rcases (show d=0\/d=1\/d=2\/d=3\/d=4\/d=5\/d=6\/d=7\/d=8\/d=9 by omega) with rfl|rfl|rfl|rfl|rfl|rfl|rfl|rfl|rfl|rfl<;>rfl
def VK:∀m:Nat,(s7 m).length<=m+1:=λm=>by
 induction m using Nat.strongRecOn with
 |_ m ih=>
  grind [s7,List.length_append,List.length_singleton]
def adL:∀n m h ,m<n->m<=100000->Wp (gC n (m:Int)) h λy h'=>y=ofBytes (s7 m)/\h'=h:=by
 intro n
 induction n with
 |zero=>intro m h h1;omega
 |succ n ih=>
  intro m h h1 h2;show Wp (sC (hY.at n) n (m:Int)) h _;unfold sC;by_cases hm:m<10
  .have e:IntKind.i64.wrap ((m:Int)+1)=((m+1:Nat):Int):=pA (acX m) (by omega);rw[By (by grind),e,ah,bY];refine⟨by omega,by omega,by show _<=((10:Nat):Int);omega,ag.2 ⟨?_,rfl⟩⟩;rw[IS,IS,adK hm,s7,By hm]
  .rw[AT (by grind)];have e1:(m:Int).tmod 10=((m%10:Nat):Int):=rfl;have e2:(m:Int).tdiv 10=((m/10:Nat):Int):=rfl;have e3:IntKind.i64.wrap (((m%10:Nat):Int)+1)=((m%10+1:Nat):Int):=pA (acX _) (by omega);have e4:IntKind.i64.wrap ((m/10:Nat):Int)=((m/10:Nat):Int):=vw (by omega) (by omega);rw[e1,e2,e3,e4];rw[ah,J6];refine⟨by decide,?_⟩;rw[ah,J6];refine⟨by decide,?_⟩;rw[ah,J6];refine⟨by decide,?_⟩;rw[ah,bY];refine⟨by omega,by omega,by show _<=((10:Nat):Int);omega,?_⟩;rw[ah];refine (ih (m/10) h (by omega) (by omega)).mono λy h' hy=>?_;obtain⟨rfl,rfl⟩:=hy;rw[IS,IS,adK (by omega),ah,tc,sw,sw];have:=VK (m/10);refine⟨by grind [List.length_singleton,bJ],ag.2 ⟨?_,rfl⟩⟩;rw[FM]
   conv=>rhs;rw[s7,AT hm]
def YW (z:Z h0 h L)(G:iK h0 s N){k}{y}(hy:gt N k=some y)(h5:y.kind=5)(hf:ji y=some true)(ht:y.text.size<=65536){n}(hn:65600<n) :
  Wp (gY n (s,root) k) h λr h'=>r=TU N k/\Z h0 h' L:=by
 obtain⟨o1,o2,o3⟩:=GL hf (by omega) (by omega) (by omega);obtain⟨n,rfl⟩:∃n',n=n'+2:=⟨n-2,by omega⟩;show Wp (rC (aF.at (n+1)) (n+1) (s,root) k) h _;unfold rC;refine z.new λx0 h1 z _=>?_;refine z.ld 0 (x:=s) ?_;refine G.at z (ax hy).1 (ax hy).2 λa ks is nd ik ii=>nd.eZ ?_;refine z.new λx4 h2 z _=>z.st 0 (cs':=[vi y.kind,.string y.text,.bool y.ord,aA ks,aA is]) λh3 z=>?_;refine z.ld 0 ?_;refine z.ld 0 ?_;rw[h5,ah,bY];refine⟨by decide,by decide,by decide,?_⟩;have ef:(ofBytes [97,98,99,100,101,102,103,104,105,106,107,108]).extract (5:Int).toNat (IntKind.i64.wrap (5+1)).toNat=ofBytes [102]:=by
  rw[<-EV];rfl
 rw[ef];rw[h5] at z;refine z.ld 0 ?_;refine z.ld 0 ?_;refine z.ld 0 (x:=is) ?_;have lb:∀(q:List θ),(∀a,some a∈q->a.block=x4)->∀(m:Nat),m<=65536->∀{f:ζ->M ζ} {Q:ζ->aj->Prop},(Wp (f (ofBytes (s7 m))) h3 Q)->Wp (sh (sM q (gC (n+1) (m:Int))) f) h3 Q:=by
  intro q hq m hm f Q h1;have lbx:LB h3 x4 [vi 5,.string y.text,.bool y.ord,aA ks,aA is] ar:=z.get 0 rfl;refine rQ (λa ha=>⟨[vi 5,.string y.text,.bool y.ord,aA ks,aA is],ar,by grind,λr h' hp=>by grind⟩) (adL (n+1) m h3 (by omega) (by omega)) λr h' hp=>?_;obtain⟨rfl,rfl⟩:=hp;exact h1
 have d1:=VK y.text.size;refine lb _ (λa ha=>?_) y.text.size ht ?_
 .simp only[apt,adW,aqZ,or_false] at ha;rcases ha with rfl|rfl|rfl|rfl<;>rfl
 rw[ah,tc,FM,sw,sw];refine⟨by grind [List.length_singleton,bJ],?_⟩;rw[ah,tc,FM,sw,sw];refine⟨by grind [List.length_append,List.length_singleton,bJ],?_⟩;rw[ah,tc,sw];refine⟨by grind [List.length_append,List.length_singleton,bJ],?_⟩;have et:=ag9 y.text;have es:y.text.data.toList.length=y.text.size:=rfl;rw[<-et,FM,et,ii.len,o3];refine lb _ (λa ha=>?_) 0 (by omega) ?_
 .simp only[apt,adW,aqZ,or_false] at ha;rcases ha with rfl|rfl|rfl<;>rfl
 have e0:s7 0=[48]:=by rw[s7];rfl
 rw[e0];rw[ah,tc,FM,sw,sw];refine⟨by grind [List.length_append,List.length_singleton,bJ],?_⟩;rw[ah,tc,FM,sw,sw];refine⟨by grind [List.length_append,List.length_singleton,bJ],?_⟩;rw[ah];show Wp (o6 (aF.at n) n (ak x0) (ak x4) _ oz 0) h3 _;unfold o6;refine z.ld 0 (x:=is) ?_;rw[ii.len,o3,AT (by simp),ag,ah];show Wp (o5 (aF.at n) n (ak x4) _ oz 0) h3 _;unfold o5;rw[AT (by simp),ag];refine z.ld 0 ?_;rw[o1,AT (by simp),ah,tc,FM,sw,sw];refine⟨by grind [List.length_append,List.length_singleton,bJ],ag.2 ⟨?_,z.drop.drop⟩⟩
 grind [TU,zd,BT]
def anj {s'}{T:List ζ}{g}{t}(hm:bA.sl s' 1 uo (T.map .string) g∈L)(ht:t∉T)(hl:T.length<1073741824) a0 a1 a3 :
  ∀n i ,T.length-i<n->i<=T.length->Z h0 h L->Wp (jB n a0 a1 s' a3 t (i:Int)) h λy h'=>y=.inl ()/\h'=h:=by
 intro n
 induction n with
 |zero=>intro i h1;omega
 |succ n ih=>
  intro i h1 h2 z;have o:nv h s' 1 uo (T.map .string) g:=(z.own _ hm).1;have hs:s'.len=T.length:=by have:=o.1;grind
  rw[yR];unfold pd;rw[hs];by_cases hi:i<T.length
  .rw[By (by grind)];obtain⟨u,hu⟩:=cG hi;refine (nv.BX o).Jf (by omega) (by simpa using hu) λa c=>c.mN rfl rfl ?_;have hne:¬oG u t=true:=λe=>ht (by grind [GN,List.mem_of_getElem?]);rw[AT hne,pA h2 (by omega)];exact ih (i+1) (by omega) (by omega) z
  .rw[AT (by grind),ag]
   grind
def ank (G:iK h0 s N)(hf:∀x∈N,ji x=some true)(ht:∀x∈N,x.text.size<=65536){i:Nat}(hx:N[i]?=some x)(hl:x.keys.length<=80)(hk:∀k∈x.keys,YL N k)(hd:(x.keys.map (TU N)).Nodup){x0} :
  ∀n j sl g h ,x.keys.length-j+65700<n->j<=x.keys.length->Z h0 h (.sl sl 1 uo (((x.keys.take j).map (TU N)).map .string) g::.au x0 [aA s,vi root] ai::L) ->
   Wp (jC n (ak x0) (i:Int) sl (j:Int)) h λy h'=>y=.inl ()/\Z h0 h' (.au x0 [aA s,vi root] ai::L):=by
 intro n
 induction n with
 |zero=>intro j sl g h h1;omega
 |succ n ih=>
  intro j sl g h h1 h2 z;rw[yS];unfold pf;refine z.ld 1 (x:=s) ?_;refine G.at z (by omega) (by simpa using hx) λa ks is nd ik ii=>nd.Fj ?_;rw[ik.len];by_cases hj:j<x.keys.length
  .rw[By (by grind)];obtain⟨k,hk'⟩:=cG hj;obtain⟨y,hy,h5⟩:=hk k (BY hk');refine z.eZ 1 (ls:=[.sl,li]) (x:=(s,root)) ?_;refine z.ld 1 (x:=s) ?_;refine G.at z (by omega) (by simpa using hx) λa ks is nd ik ii=>nd.Fj ?_;refine (ik.fr z.fr).ix (by omega) (by simpa using hk') λa ga cl=>cl.mN rfl rfl ?_;rw[ah];refine (YW z G hy h5 (hf y (aE hy)) (ht y (aE hy)) (by omega)).mono λr h3 hr=>?_;obtain⟨rfl,z⟩:=hr;have hlt:(x.keys.take j).length=j:=by grind
   have hno:TU N k∉(x.keys.take j).map (TU N):=λhm=>by
    have hd2:=hd;rw[<-apB j x.keys,drop_cons hk',aiJ,adZ] at hd2
    grind
   rw[ah];refine (anj OF hno (by grind) _ _ _ n 0 (by grind) (aea _) z).mono λr h4 hr=>?_;obtain⟨rfl,rfl⟩:=hr;simp[aK];have o:nv h4 sl 1 uo (((x.keys.take j).map (TU N)).map .string) g:=z.get 0 rfl;have hs:sl.len=j:=by have:=o.1;grind
   refine z.GI 0 (new:=[.string (TU N k)]) rfl (by decide) rfl (by grind [bJ]) λs' h5 g' hs' z _=>?_;rw[pA h2 (by omega)];refine ih (j+1) s' g' h5 (by omega) (by omega) ?_
   grind [List.take_succ]
  .rw[AT (by grind),ag];exact⟨rfl,z.drop⟩
def anl (G:iK h0 s N)(hf:∀x∈N,ji x=some true)(ht:∀x∈N,x.text.size<=65536)(hB:Bd N 80)(hk:∀x∈N,(x.keys.map (TU N)).Nodup/\∀k∈x.keys,YL N k){x0} :
  ∀n i h ,N.length-i+65900<n->i<=N.length->Z h0 h (.au x0 [aA s,vi root] ai::L)->Wp (jD n (ak x0) (i:Int)) h λy h'=>y=.inl ()/\Z h0 h' (.au x0 [aA s,vi root] ai::L):=by
 have hNB:=hB.1;intro n
 induction n with
 |zero=>intro i h h1;omega
 |succ n ih=>
  intro i h h1 h2 z;rw[yT];unfold pg;refine z.ld 0 (x:=s) ?_;rw[G.len];by_cases hi:i<N.length
  .rw[By (by grind)];obtain⟨x,hx⟩:=cG hi;have hm:=BY hx;have hbx:=hB.2.2 x hm;have z1:=z.add (Fr.refl z.wf) (o:=.sl oz 1 uo [] 0) nv.nil (.inl rfl);rw[ah];refine (ank G hf ht hx hbx.1 (hk x hm).2 (hk x hm).1 n 0 oz 0 h (by omega) (aea _) z1).mono λy h3 hy=>?_;obtain⟨rfl,z⟩:=hy;simp[aK];rw[pA h2 (by omega)];exact ih (i+1) h3 (by omega) (by omega) z
  .rw[AT (by grind),ag]
   grind
def YX (z:Z h0 h L)(G:iK h0 s N)(hf:∀x∈N,ji x=some true)(ht:∀x∈N,x.text.size<=65536)(hB:Bd N 80)(hk:∀x∈N,(x.keys.map (TU N)).Nodup/\∀k∈x.keys,YL N k){n}(hn:66000<n) :
  Wp (pX n (s,root)) h λy h'=>y=false/\Z h0 h' L:=by
 have hNB:=hB.1;unfold pX;refine z.new λx0 h1 z _=>?_;rw[ah];refine (anl G hf ht hB hk n 0 h1 (by omega) (aea _) z).mono λy h2 hy=>?_;obtain⟨rfl,z⟩:=hy;simp[aK];rw[ag];exact⟨rfl,z.drop⟩
end Go.Sh
