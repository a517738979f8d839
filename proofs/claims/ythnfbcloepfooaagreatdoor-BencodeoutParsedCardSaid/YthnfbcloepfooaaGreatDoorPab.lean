
import Derived.Test.YthnfbcloepfooaaGreatDoorSp
set_option linter.all false
namespace Go.Sh
open Go Go.Ago Go.Proofs
section
theorem tot (s:ζ):∀m,
  (∀k sn d p,2*k+1<=m->Inv s p->s.size-p.pos<=k->((sp s m).V sn d p).isSome=true) /\
  (∀k (nd:Nat) sp' k' d p,2*k+2<=m->Inv s p->nd<p.nodes.length->s.size-p.pos<=k->((sp s m).L nd sp' k' d p).isSome=true) /\
  (∀k (nd:Nat) sp' k' d last p,2*k+2<=m->Inv s p->nd<p.nodes.length->s.size-p.pos<=k->((sp s m).D nd sp' k' d last p).isSome=true)
 |0=>⟨λ_ _ _ _ h=>by omega,λ_ _ _ _ _ _ h=>by omega,λ_ _ _ _ _ _ _ h=>by omega⟩
 |m+1=>by
  obtain⟨tV,tL,tD⟩:=tot s m;have opn:∀{p:PV} {x:dB} {sp' d:Nat} {kind:Int} {k:Nat},2*k+1<=m+1->Inv s p->s.size-p.pos<=k->p.pos<s.size->(mu s (sp s m) { p with au:=p.au++[x] } sp' d kind).isSome=true:=by
   intro p x sp' d kind k hm i hk hlt;unfold mu;cases hn:pF { p with au:=p.au++[x] } ⟨kind,ofBytes [],false,[],[]⟩ p.pos d with
   |error e=>rfl
   |ok q=>
    obtain⟨n,p1⟩:=q;obtain⟨rfl,rfl,h1,_⟩:=jq hn;have i1:=CP (x:=x) (kind:=kind) i hlt h1;simp only;have hL:=tL (k-1) p.nodes.length sp' 0 d _ (by omega) i1 (by simp) (by simp;omega);have hD:=tD (k-1) p.nodes.length sp' 0 d (ofBytes []) _ (by omega) i1 (by simp) (by simp;omega);by_cases hk9:kind=9
    .simp only[BY hk9];obtain⟨r,hr⟩:=Option.isSome_iff_exists.1 hL;rw[hr];cases r<;>rfl
    .simp only[By hk9];obtain⟨r,hr⟩:=Option.isSome_iff_exists.1 hD;rw[hr];cases r<;>rfl
  refine⟨λk sn d p hm i hk=>?_,λk nd sp' k' d p hm i hn hk=>?_,λk nd sp' k' d last p hm i hn hk=>?_⟩
  .simp only[sp,XU];by_cases hle:s.size<=p.pos
   .rw[BY hle];rfl
   .rw[By hle];have hr:(rY s (sp s m) { p with au:=p.au++[{ sn with xc:=p.pos,whole:=true }] } p.au.length d).isSome=true:=by
     unfold rY;split
     .rfl
     .split
      .rfl
      .split
       .exact opn hm i hk (by omega)
       .split
        .exact opn hm i hk (by omega)
        .rfl
    obtain⟨r,hr⟩:=Option.isSome_iff_exists.1 hr;rw[hr];cases r<;>rfl
  .simp only[sp,XV];split
   .rfl
   .rename_i c hc;have hlt:=yz hc;split
    .rfl
    .obtain⟨r,hr⟩:=Option.isSome_iff_exists.1 (tV k (qg sp' k' 0 0) (d+1) p (by omega) i hk);rw[hr];cases r with
     |error e=>rfl
     |ok q=>
      obtain⟨it,p2⟩:=q;obtain⟨a,_⟩:=(rh s m).V _ _ _ _ _ i hr;have am:=wv.modify (f:=λx=>{ x with items:=x.items++[it] }) i a hn (by simp);have hp:p.pos<p2.pos:=am.pos;exact tL (k-1) nd sp' (k'+1) d _ (by omega) am.inv (aaC hn am.nodes) (by show s.size-p2.pos<=k-1;omega)
  .simp only[sp,XW];split
   .rfl
   .rename_i c hc;have hlt:=yz hc;split
    .rfl
    .split
     .rfl
     .rename_i t a ht;obtain⟨e1,e2⟩:=xd ht;split
      .rfl
      .rename_i key p1 hk';obtain⟨rfl,rfl,h1,h2⟩:=jq hk';have a1:∀ex,wv s ex p { p with pos:=a,nodes:=p.nodes++[⟨5,t,false,[],[]⟩] }:=λex=>wv.step i e1 e2 h1 (by simp);split
       .rfl
       .split
        .rfl
        .obtain⟨r,hr⟩:=Option.isSome_iff_exists.1 (tV (k-1) (qg sp' k' p.pos a) (d+1) { p with pos:=a,nodes:=p.nodes++[⟨5,t,false,[],[]⟩] } (by omega) (a1 0).inv (by simp;omega));rw[hr];cases r with
         |error e=>rfl
         |ok q=>
          obtain⟨it,p2⟩:=q;obtain⟨a3,_⟩:=(rh s m).V _ _ _ _ _ (a1 0).inv hr;have am:=wv.modify (f:=λx=>{ x with keys:=x.keys++[(p.nodes.length:Int)],items:=x.items++[it] }) i (λex=>(a1 ex).trans (a3 ex)) hn (by simp);have hp:p.pos<p2.pos:=am.pos;exact tD (k-1) nd sp' (k'+1) d t _ (by omega) am.inv (aaC hn am.nodes) (by show s.size-p2.pos<=k-1;omega)
def s7 (s:ζ)(m:Nat):Option (Rs PV):=
 if 65536<s.size then some (.error (0,6)) else
 match (sp s m).V (qg (-1) 0 0 0) 0 ⟨0,[],[]⟩ with
 |none=>none
 |some (.error e)=>some (.error e)
 |some (.ok (_,p))=>if p.pos<s.size then some (.error (p.pos,4)) else some (.ok p)
theorem G0 (s:ζ)(m:Nat)(hm:2*s.size+1<=m):∃r,s7 s m=some r:=by
 unfold s7;split
 .exact⟨_,rfl⟩
 .obtain⟨r,hr⟩:=Option.isSome_iff_exists.1 ((tot s m).1 s.size (qg (-1) 0 0 0) 0 ⟨0,[],[]⟩ hm ⟨by simp,by simp,by simp,by simp⟩ (by simp));rw[hr];cases r with
  |error e=>exact⟨_,rfl⟩
  |ok q=>
   obtain⟨n,p⟩:=q;by_cases h:p.pos<s.size
   .exact⟨_,by simp only[BY h];rfl⟩
   .exact⟨_,by simp only[By h];rfl⟩
end
section
mutual
inductive tW where
 |int (t:ζ)
 |str (t:ζ)
 |list (l:Az)
 |map (l:s9)
inductive Az where
 |nil
 |cons (v:tW) (l:Az)
inductive s9 where
 |nil
 |cons (k:ζ) (v:tW) (l:s9)
end
def AA (n:Nat):List UInt8:=if n<10 then [UInt8.ofNat (48+n)] else AA (n/10)++[UInt8.ofNat (48+n%10)]
termination_by n
def uw (t:ζ):List UInt8:=AA t.size++58::t.data.toList
mutual
def enc:tW->List UInt8
 |.int t=>105::(t.data.toList++[101])
 |.str t=>uw t
 |.list l=>108::(vW l++[101])
 |.map l=>100::(qN l++[101])
def vW:Az->List UInt8
 |.nil=>[]
 |.cons v l=>enc v++vW l
def qN:s9->List UInt8
 |.nil=>[]
 |.cons k v l=>uw k++(enc v++qN l)
end
mutual
def fY:tW->Nat
 |.int _=>1
 |.str _=>1
 |.list l=>1+qO l
 |.map l=>1+nU l
def qO:Az->Nat
 |.nil=>0
 |.cons v l=>fY v+qO l
def nU:s9->Nat
 |.nil=>0
 |.cons _ v l=>1+(fY v+nU l)
end
def rB (b:Nat):Az->ε
 |.nil=>[]
 |.cons v l=>(b:Int)::rB (b+fY v) l
def gV (b:Nat):s9->ε
 |.nil=>[]
 |.cons _ v l=>(b:Int)::gV (b+1+fY v) l
def jh (b:Nat):s9->ε
 |.nil=>[]
 |.cons _ v l=>((b+1:Nat):Int)::jh (b+1+fY v) l
mutual
def fK (b:Nat):tW->List aq
 |.int t=>[⟨2,t,false,[],[]⟩]
 |.str t=>[⟨if u8 t then 5 else 6,t,false,[],[]⟩]
 |.list l=>⟨9,ofBytes [],false,[],rB (b+1) l⟩::kM (b+1) l
 |.map l=>⟨10,ofBytes [],false,gV (b+1) l,jh (b+1) l⟩::iJ (b+1) l
def kM (b:Nat):Az->List aq
 |.nil=>[]
 |.cons v l=>fK b v++kM (b+fY v) l
def iJ (b:Nat):s9->List aq
 |.nil=>[]
 |.cons k v l=>⟨5,k,false,[],[]⟩::(fK (b+1) v++iJ (b+1+fY v) l)
end
mutual
def WR:tW->Nat
 |.int _=>1
 |.str _=>1
 |.list l=>1+TM l
 |.map l=>1+TN l
def TM:Az->Nat
 |.nil=>0
 |.cons v l=>WR v+TM l
def TN:s9->Nat
 |.nil=>0
 |.cons _ v l=>WR v+TN l
end
mutual
def Sv (o b i:Nat)(par e kf kt:Int):tW->List dB
 |.int t=>[⟨b,par,e,o,(o+(enc (.int t)).length:Nat),kf,kt,false,true⟩]
 |.str t=>[⟨b,par,e,o,(o+(enc (.str t)).length:Nat),kf,kt,false,true⟩]
 |.list l=>⟨b,par,e,o,(o+(enc (.list l)).length:Nat),kf,kt,false,true⟩::G3 (o+1) (b+1) (i+1) i 0 l
 |.map l=>⟨b,par,e,o,(o+(enc (.map l)).length:Nat),kf,kt,false,true⟩::G4 (o+1) (b+1) (i+1) i 0 l
def G3 (o b i par k:Nat):Az->List dB
 |.nil=>[]
 |.cons v l=>Sv o b i par k 0 0 v++G3 (o+(enc v).length) (b+fY v) (i+WR v) par (k+1) l
def G4 (o b i par k:Nat):s9->List dB
 |.nil=>[]
 |.cons key v l=>Sv (o+(uw key).length) (b+1) i par k o ((o+(uw key).length:Nat)) v ++
   G4 (o+(uw key).length+(enc v).length) (b+1+fY v) (i+WR v) par (k+1) l
end
mutual
def IU (d:Nat):tW->Prop
 |.int t=>d<=32/\wu t=true
 |.str _=>d<=32
 |.list l=>d<=32/\Sw (d+1) l
 |.map l=>d<=32/\L9 (d+1) none l
def Sw (d:Nat):Az->Prop
 |.nil=>True
 |.cons v l=>IU d v/\Sw d l
def L9 (d:Nat)(last:Option ζ):s9->Prop
 |.nil=>True
 |.cons k v l=>d<=32/\u8 k=true/\(∀t,last=some t->Uw k t=false)/\IU d v/\L9 d (some k) l
end
mutual
theorem cp:∀(b:Nat) (v:tW),(fK b v).length=fY v
 |b,.int t=>rfl
 |b,.str t=>rfl
 |b,.list l=>by simp only[fK,fY,aae];rw[IV (b+1) l];omega
 |b,.map l=>by simp only[fK,fY,aae];rw[IW (b+1) l];omega
theorem IV:∀(b:Nat) (l:Az),(kM b l).length=qO l
 |b,.nil=>rfl
 |b,.cons v l=>by simp only[kM,qO,aaa];rw[cp b v,IV (b+fY v) l]
theorem IW:∀(b:Nat) (l:s9),(iJ b l).length=nU l
 |b,.nil=>rfl
 |b,.cons k v l=>by simp only[iJ,nU,aae,aaa];rw[cp (b+1) v,IW (b+1+fY v) l];omega
end
mutual
theorem BU:∀(o b i:Nat) (par e kf kt:Int) (v:tW),(Sv o b i par e kf kt v).length=WR v
 |_,_,_,_,_,_,_,.int t=>rfl
 |_,_,_,_,_,_,_,.str t=>rfl
 |o,b,i,_,_,_,_,.list l=>by simp only[Sv,WR,aae];rw[IX (o+1) (b+1) (i+1) i 0 l];omega
 |o,b,i,_,_,_,_,.map l=>by simp only[Sv,WR,aae];rw[IY (o+1) (b+1) (i+1) i 0 l];omega
theorem IX:∀(o b i par k:Nat) (l:Az),(G3 o b i par k l).length=TM l
 |_,_,_,_,_,.nil=>rfl
 |o,b,i,par,k,.cons v l=>by simp only[G3,TM,aaa];rw[BU o b i par k 0 0 v,IX _ _ _ par (k+1) l]
theorem IY:∀(o b i par k:Nat) (l:s9),(G4 o b i par k l).length=TN l
 |_,_,_,_,_,.nil=>rfl
 |o,b,i,par,k,.cons key v l=>by simp only[G4,TN,aaa];rw[BU _ (b+1) i par k _ _ v,IY _ _ _ par (k+1) l]
end
theorem wP {α:Type}{f g:α->α}:∀(l:List α) (n:Nat),(l.modify n f).modify n g=l.modify n (λx=>g (f x))
 |[],n=>by simp
 |x::l,0=>by simp
 |x::l,n+1=>by simp[wP l n]
theorem lx {α:Type}{f:α->α}:∀(l r:List α) (n:Nat),n<l.length->(l++r).modify n f=l.modify n f++r
 |[],r,n,h=>by simp at h
 |x::l,r,0,_=>by simp
 |x::l,r,n+1,h=>by simp[lx l r n (by simpa using h)]
theorem modify_id {α:Type}(l:List α)(n:Nat):l.modify n (λx=>x)=l:=by
 have:(λx:α=>x)=id:=rfl;rw[this];simp
theorem ta {α:Type}{f:α->α}{x:α}:∀(l:List α),(l++[x]).modify l.length f=l++[f x]
 |[]=>by simp
 |y::l=>by simp[ta l]
theorem IZ (a:Nat)(D E:List UInt8):decFrom a (D++E)=decFrom (decFrom a D) E:=by simp[decFrom,List.foldl_append]
theorem wQ (D:List UInt8)(c:UInt8):eC (D++[c])=10*eC D+(c.toNat-48):=by
 show decFrom 0 (D++[c])=_;rw[IZ];rfl
theorem AB {c:UInt8}(h:ga c=true):48<=c.toNat/\c.toNat<=57:=by
 simp only[ga,aaf] at h;exact⟨aaB h.1,aaB h.2⟩
theorem EB {c:UInt8}(h:ga c=true):UInt8.ofNat (48+(c.toNat-48))=c:=by
 obtain⟨h1,h2⟩:=AB h;rw[show 48+(c.toNat-48)=c.toNat by omega];simp
theorem Ma {P:List UInt8->Prop}(h0:P [])(hs:∀l c,P l->P (l++[c]))(l:List UInt8):P l:=by
 have key:∀r:List UInt8,P r.reverse:=by
  intro r
  induction r with
  |nil=>exact h0
  |cons a r ih=>rw[List.reverse_cons];exact hs _ _ ih
 have:=key l.reverse
 rwa [List.reverse_reverse] at this
theorem KD:∀D:List UInt8,D.all ga=true->(∃c r,D=c::r/\c≠48)->1<=eC D:=by
 intro D
 induction D using Ma with
 |h0=>rintro _ ⟨c,r,h,_⟩;cases h
 |hs l c ih=>
  intro hd hx;rw[wQ];rw[acI,aaf] at hd;cases l with
  |nil=>
   obtain⟨c',r,h1,h2⟩:=hx;simp at h1;obtain⟨rfl,rfl⟩:=h1;have hdc:ga c=true:=by simpa using hd.2
   have h3:=(AB hdc).1;have h4:c.toNat≠48:=λe=>h2 (by apply UInt8.toNat.inj;rw[e];rfl);omega
  |cons a l=>
   obtain⟨c',r,h1,h2⟩:=hx;simp only[aaq,ab0] at h1;have:=ih hd.1 ⟨a,l,rfl,by rw[h1.1];exact h2⟩;omega
theorem I0:∀D:List UInt8,D.all ga=true->D≠[]->¬(1<D.length/\D.head?=some 48)->AA (eC D)=D:=by
 intro D
 induction D using Ma with
 |h0=>intro _ h;exact absurd rfl h
 |hs l c ih=>
  intro hd _ hz;rw[acI,aaf] at hd;have hdc:ga c=true:=by simpa using hd.2
  obtain⟨h3,h4⟩:=AB hdc;cases l with
  |nil=>
   rw[wQ];show AA (10*0+(c.toNat-48))=[c];unfold AA;rw[BY (by omega),Nat.mul_zero,aab,EB hdc]
  |cons a l=>
   have ha:a≠48:=λe=>hz ⟨by simp,by simp[e]⟩;have ih:=ih hd.1 (by simp) (λh=>ha (by simpa using h.2));have hp:=KD (a::l) hd.1 ⟨a,l,rfl,ha⟩;rw[wQ];unfold AA;rw[By (by omega),show (10*eC (a::l)+(c.toNat-48))/10=eC (a::l) by omega,ih,
    show (10*eC (a::l)+(c.toNat-48))%10=c.toNat-48 by omega,EB hdc]
theorem Yf (s:ζ)(a b:Nat):(s.extract a b).data.toList=(s.data.toList.drop a).take (b-a):=by simp[ab7]
theorem KE (L:List UInt8):∃R,L=pE L++R/\(∀c r,R=c::r->ga c=false):=by
 induction L with
 |nil=>exact⟨[],rfl,by simp⟩
 |cons c L ih=>
  unfold pE;rw[abZ];cases hc:ga c with
  |false=>exact⟨c::L,by simp,λc' r e=>by cases e;exact hc⟩
  |true=>
   obtain⟨R,h1,h2⟩:=ih;refine⟨R,?_,h2⟩;simp only[aav,aaq,ab0,aaY];exact h1
theorem Rz (L:List UInt8):(pE L).all ga=true:=by
 induction L with
 |nil=>rfl
 |cons c L ih=>
  unfold pE;rw[abZ];cases hc:ga c with
  |false=>simp
  |true=>simp only[aav,abA,hc,acw];exact ih
theorem Mb {s t:ζ}{a a2:Nat}(h:tN s a=.ok (t,a2)):s.data.toList.drop a=uw t++s.data.toList.drop a2/\a2=a+(uw t).length:=by
 unfold tN at h;simp only at h;generalize hL:s.data.toList=L at h;obtain⟨R,h1,_⟩:=KE (L.drop a);have hdd:=Rz (L.drop a);generalize pE (L.drop a)=D at *
 split at h
 .cases h
 .rename_i hD0;split at h
  .cases h
  .rename_i hz;split at h
   .cases h
   .rename_i c hc;split at h
    .rename_i hc58;split at h
     .cases h
     .rename_i hlen;cases h;have hsz:s.size=L.length:=(by rw[<-hL];rfl);have hlt:=(List.getElem?_eq_some_iff.1 hc).1;have hR:R=L.drop (a+D.length):=(by rw[<-aa3,h1,List.drop_left]);have hR2:R=58::L.drop (a+D.length+1):=by
       rw[hR,aay hlt,(List.getElem?_eq_some_iff.1 hc).2,hc58]
      have hDne:D≠[]:=λe=>hD0 (by rw[e];rfl);have hhead:L[a]?=D.head?:=by
       cases D with
       |nil=>exact absurd rfl hDne
       |cons d D=>
        have:(L.drop a)[0]?=some d:=(by rw[h1];rfl);rw[aaJ] at this;simpa using this
      have hdec:AA (eC D)=D:=I0 D hdd hDne (by rw[<-hhead];exact hz);have hts:(s.extract (a+D.length+1) (a+D.length+1+eC D)).data.toList=(L.drop (a+D.length+1)).take (eC D):=by
       rw[Yf,hL,ab5]
      have htl:(s.extract (a+D.length+1) (a+D.length+1+eC D)).size=eC D:=by
       have:(s.extract (a+D.length+1) (a+D.length+1+eC D)).size=(s.extract (a+D.length+1) (a+D.length+1+eC D)).data.toList.length:=rfl;rw[this,hts,aaI,aaZ];omega
      refine⟨?_,?_⟩
      .unfold uw;rw[htl,hdec,hts,h1,hR2,aas,aaq]
       congr 2
       rw[<-aa3 (i:=eC D),abd]
      .unfold uw;rw[htl,hdec,hts,aaa,aae,aaI,aaZ];omega
    .cases h
theorem D5 {x:List UInt8}{j:Nat}(h:x.findIdx? (λb=>b==101)=some j):x=x.take j++101::x.drop (j+1)/\j<x.length:=by
 rw[abl] at h;obtain⟨hlt,he,_⟩:=h;refine⟨?_,hlt⟩;have he:x[j]=101:=by simpa using he
 conv=>lhs;rw[<-abd j x,aay hlt,he]
end
section
def KF (o b i:Nat):tW->List dB
 |.int _=>[]
 |.str _=>[]
 |.list l=>G3 (o+1) (b+1) (i+1) i 0 l
 |.map l=>G4 (o+1) (b+1) (i+1) i 0 l
theorem WS (o b i:Nat)(par e kf kt:Int)(v:tW):Sv o b i par e kf kt v=⟨b,par,e,o,(o+(enc v).length:Nat),kf,kt,false,true⟩::KF o b i v:=by
 cases v<;>simp only[Sv,KF]
theorem Dg {L:List UInt8}{i:Nat}{c:UInt8}(h:L[i]?=some c):L.drop i=c::L.drop (i+1):=by
 have hlt:=(List.getElem?_eq_some_iff.1 h).1;rw[aay hlt,(List.getElem?_eq_some_iff.1 h).2]
structure Snd (s:ζ) (G:Qo):Prop where
 V:∀(par e kf kt:Int) (d:Nat) (p:PV) (n:Int) (p2:PV),G.V (qg par e kf kt) d p=some (.ok (n,p2)) ->
  ∃v,IU d v/\n=p.nodes.length/\s.data.toList.drop p.pos=enc v++s.data.toList.drop p2.pos /\
   p2=⟨p.pos+(enc v).length,p.nodes++fK p.nodes.length v,p.au++Sv p.pos p.nodes.length p.au.length par e kf kt v⟩
 L:∀(nd par k d:Nat) (p p2:PV),nd<p.nodes.length->G.L nd par k d p=some (.ok p2) ->
  ∃l,Sw (d+1) l/\s.data.toList.drop p.pos=vW l++101::s.data.toList.drop p2.pos /\
   p2=⟨p.pos+(vW l).length+1,p.nodes.modify nd (λx=>{ x with items:=x.items++rB p.nodes.length l })++kM p.nodes.length l,p.au++G3 p.pos p.nodes.length p.au.length par k l⟩
 D:∀(nd par k d:Nat) (last:ζ) (p p2:PV),nd<p.nodes.length->G.D nd par k d last p=some (.ok p2) ->
  ∃l,L9 (d+1) (if k=0 then none else some last) l/\s.data.toList.drop p.pos=qN l++101::s.data.toList.drop p2.pos /\
   p2=⟨p.pos+(qN l).length+1,p.nodes.modify nd (λx=>{ x with keys:=x.keys++gV p.nodes.length l,items:=x.items++jh p.nodes.length l })++iJ p.nodes.length l,p.au++G4 p.pos p.nodes.length p.au.length par k l⟩
theorem RA {s:ζ}{G:Qo}(g:Snd s G){p p2:PV}{x:dB}{d:Nat}{n:Int}(hr:rY s G { p with au:=p.au++[x] } p.au.length d=some (.ok (n,p2))) :
  ∃v,IU d v/\n=p.nodes.length/\s.data.toList.drop p.pos=enc v++s.data.toList.drop p2.pos /\
   p2=⟨p.pos+(enc v).length,p.nodes++fK p.nodes.length v,(p.au++[x])++KF p.pos p.nodes.length p.au.length v⟩:=by
 unfold rY at hr;split at hr
 .cases hr
 .rename_i c hc;have hc:s.data.toList[p.pos]?=some c:=hc;have hdr:=Dg hc;have opn:∀(kind:Int),mu s G { p with au:=p.au++[x] } p.au.length d kind=some (.ok (n,p2))->n=p.nodes.length/\d<=32 /\
    (if kind=9 then G.L (p.nodes.length:Nat) p.au.length 0 d ⟨p.pos+1,p.nodes++[⟨kind,ofBytes [],false,[],[]⟩],p.au++[x]⟩ else G.D (p.nodes.length:Nat) p.au.length 0 d (ofBytes []) ⟨p.pos+1,p.nodes++[⟨kind,ofBytes [],false,[],[]⟩],p.au++[x]⟩)=some (.ok p2):=by
   intro kind ho;unfold mu at ho;split at ho
   .cases ho
   .rename_i n1 p1 hn;obtain⟨rfl,rfl,h1,h2⟩:=jq hn;split at ho
    .cases ho
    .cases ho
    .rename_i p3 hl;cases ho;exact⟨rfl,h2,hl⟩
  split at hr
  ·-- an integer
   rename_i h105;have hr:=aao hr;unfold Et at hr;split at hr
   .cases hr
   .rename_i j hj;split at hr
    .rename_i hok;obtain⟨rfl,rfl,h1,h2⟩:=jq hr;have hj:(s.data.toList.drop p.pos).findIdx? (λb=>b==101)=some j:=hj;obtain⟨h3,h4⟩:=D5 hj;obtain⟨j,rfl⟩:∃q,j=q+1:=by
      cases j with
      |zero=>
       rw[abl] at hj;obtain⟨hlt,he,_⟩:=hj;exfalso;have:(s.data.toList.drop p.pos)[0]?=some 101:=(by rw[aak hlt];simpa using he);rw[hdr] at this;simp at this;rw[this] at h105;exact absurd h105 (by decide)
      |succ q=>exact⟨q,rfl⟩
     have hx:=Yf s (p.pos+1) (p.pos+(j+1));rw[show p.pos+(j+1)-(p.pos+1)=j by omega] at hx;have ht:(s.extract (p.pos+1) (p.pos+(j+1))).data.toList.length=j:=by
      rw[hx,aaI,aaZ];rw[aaZ] at h4;omega
     refine⟨.int (s.extract (p.pos+1) (p.pos+(j+1))),⟨h2,hok⟩,rfl,?_,?_⟩
     .simp only[enc];rw[hx];rw[hdr,h105] at h3;have h5:(105::s.data.toList.drop (p.pos+1)).drop (j+1+1)=s.data.toList.drop (p.pos+(j+1)+1):=by
       rw[List.drop_succ_cons,aa3]
       congr 1;omega
      rw[h5] at h3;rw[hdr,h105];rw[List.take_succ_cons,aaq,ab0] at h3;rw[aaq,aas,abq,<-h3.2]
     .simp only[enc,fK,KF,aaF];rw[aae,aaa,ht,aaD,show p.pos+(j+1+1)=p.pos+(j+1)+1 by omega]
    .cases hr
  .split at hr
   .rename_i h108;obtain⟨rfl,h2,hl⟩:=opn 9 hr;rw[BY rfl] at hl;obtain⟨l,q1,q2,q3⟩:=g.L _ _ _ _ _ _ (by simp) hl;refine⟨.list l,⟨h2,q1⟩,rfl,?_,?_⟩
    .simp only[enc];rw[hdr,h108,aaq,aas,abq,<-q2]
    .rw[q3];simp only[enc,fK,KF,aaa,aae,aam,ta,aaP,aas,abq,PV.mk.injEq];refine⟨by simp;omega,by simp,by simp⟩
   .split at hr
    .rename_i h100;obtain⟨rfl,h2,hl⟩:=opn 10 hr;rw[By (by decide)] at hl;obtain⟨l,q1,q2,q3⟩:=g.D _ _ _ _ _ _ _ (by simp) hl;refine⟨.map l,⟨h2,q1⟩,rfl,?_,?_⟩
     .simp only[enc];rw[hdr,h100,aaq,aas,abq,<-q2]
     .rw[q3];simp only[enc,fK,KF,aaa,aae,aam,ta,aaP,aas,abq,PV.mk.injEq];refine⟨by simp;omega,by simp,by simp⟩
    .have hr:=aao hr;unfold Eu at hr;split at hr
     .cases hr
     .rename_i t a ht;obtain⟨q1,q2⟩:=Mb ht;obtain⟨rfl,rfl,h1,h2⟩:=jq hr;refine⟨.str t,h2,rfl,?_,?_⟩
      .simp only[enc];exact q1
      .simp only[enc,fK,KF,aaF];rw[q2]
theorem RB (s:ζ):∀m,Snd s (sp s m)
 |0=>⟨λ_ _ _ _ _ _ _ _ h=>by simp[sp] at h,λ_ _ _ _ _ _ _ h=>by simp[sp] at h,λ_ _ _ _ _ _ _ _ h=>by simp[sp] at h⟩
 |m+1=>by
  have g:=RB s m;refine⟨λpar e kf kt d p n p2 hr=>?_,λnd par k d p p2 hn hr=>?_,λnd par k d last p p2 hn hr=>?_⟩
  .simp only[sp,XU] at hr;split at hr
   .cases hr
   .split at hr
    .cases hr
    .cases hr
    .rename_i n1 p1 h1;cases hr;obtain⟨v,q1,q2,q3,q4⟩:=RA g h1;refine⟨v,q1,q2,q3,?_⟩;subst q4;simp only[PV.mk.injEq,aaY];rw[lx _ _ _ (by simp),ta,WS,q2];simp only[qg,aas,abq]
  .simp only[sp,XV] at hr;split at hr
   .cases hr
   .rename_i c hc;split at hr
    .rename_i h101;cases hr;refine⟨.nil,trivial,?_,?_⟩
     .simp only[vW,aaP];rw[Dg hc,h101]
     .simp only[vW,rB,kM,G3,aaF,aam,aaG,modify_id]
    .split at hr
     .cases hr
     .cases hr
     .rename_i it p1 h1;obtain⟨v,q1,q2,q3,q4⟩:=g.V _ _ _ _ _ _ _ _ h1;subst q4;subst q2;have hlen:nd<(p.nodes++fK p.nodes.length v).length:=(by simp;omega);obtain⟨l,r1,r2,r3⟩:=g.L nd par (k+1) d _ p2 (by simpa[addItem] using hlen) hr;refine⟨.cons v l,⟨q1,r1⟩,?_,?_⟩
      .simp only[vW,addItem] at r2⊢;rw[q3,r2,aas]
      .rw[r3];simp only[addItem,aac,vW,rB,kM,G3,aaa,List.length_modify,cp,BU,PV.mk.injEq];refine⟨by omega,?_,by simp⟩;rw[lx _ _ _ hn,lx _ _ _ (by simpa using hn),wP,aas];simp
  .simp only[sp,XW] at hr;split at hr
   .cases hr
   .rename_i c hc;split at hr
    .rename_i h101;cases hr;refine⟨.nil,trivial,?_,?_⟩
     .simp only[qN,aaP];rw[Dg hc,h101]
     .simp only[qN,gV,jh,iJ,G4,aaF,aam,aaG,modify_id]
    .split at hr
     .cases hr
     .rename_i t a ht;obtain⟨e1,e2⟩:=Mb ht;split at hr
      .cases hr
      .rename_i key p1 hk;obtain⟨rfl,rfl,h1,h2⟩:=jq hk;split at hr
       .cases hr
       .rename_i hu;split at hr
        .cases hr
        .rename_i hlt;split at hr
         .cases hr
         .cases hr
         .rename_i it p3 h3;obtain⟨v,q1,q2,q3,q4⟩:=g.V _ _ _ _ _ _ _ _ h3;simp only at q2 q3 q4;subst q4;subst q2;have hlen:nd<((p.nodes++[(⟨5,t,false,[],[]⟩:aq)])++fK (p.nodes++[(⟨5,t,false,[],[]⟩:aq)]).length v).length:=(by simp;omega);obtain⟨l,r1,r2,r3⟩:=g.D nd par (k+1) d t _ p2 (by simpa[addEntry] using hlen) hr;have hu:u8 t=true:=(by simpa using hu);rw[By (by omega)] at r1;refine⟨.cons t v l,⟨h2,hu,?_,q1,r1⟩,?_,?_⟩
          .intro t' ht';split at ht'
           .cases ht'
           .rename_i hk0;cases ht';cases hb:Uw t last
            .rfl
            .exact absurd ⟨by omega,hb⟩ hlt
          .simp only[qN,addEntry] at r2⊢;rw[e1,q3,r2];simp only[aas]
          .rw[r3];simp only[addEntry,aac,qN,gV,jh,iJ,G4,aaa,List.length_modify,cp,BU,aae,aam,aab,PV.mk.injEq,<-e2];refine⟨by omega,?_,by simp⟩;rw[aas,lx _ _ _ hn,lx _ _ _ (by simpa using hn),wP];simp
theorem ON {s:ζ}{m:Nat}{p:PV}(h:s7 s m=some (.ok p)):∃v,IU 0 v/\s.data.toList=enc v/\s.size<=65536/\p=⟨s.size,fK 0 v,Sv 0 0 0 (-1) 0 0 0 v⟩:=by
 unfold s7 at h;split at h
 .cases h
 .rename_i hs;split at h
  .cases h
  .cases h
  .rename_i n p1 hv;split at h
   .cases h
   .rename_i hp;cases h;obtain⟨v,q1,q2,q3,q4⟩:=(RB s m).V _ _ _ _ _ _ _ _ hv;have e:s.data.toList.drop p.pos=[]:=aah (by rw[bF];omega);rw[e,aaF] at q3;have q3:s.data.toList=enc v:=(by simpa using q3);refine⟨v,q1,q3,by omega,?_⟩;rw[q4];have:(enc v).length=s.size:=(by rw[<-q3];rfl);simp[this]
structure Cpl (s:ζ) (m:Nat) (G:Qo):Prop where
 V:∀(v:tW) (par e kf kt:Int) (d:Nat) (p:PV) (rest:List UInt8),2*(enc v).length+1<=m->IU d v->s.data.toList.drop p.pos=enc v++rest->p.nodes.length+fY v<=4096 ->
  G.V (qg par e kf kt) d p=some (.ok ((p.nodes.length:Nat),⟨p.pos+(enc v).length,p.nodes++fK p.nodes.length v,p.au++Sv p.pos p.nodes.length p.au.length par e kf kt v⟩))
 L:∀(l:Az) (nd par k d:Nat) (p:PV) (rest:List UInt8),2*(vW l).length+2<=m->Sw (d+1) l->nd<p.nodes.length->s.data.toList.drop p.pos=vW l++101::rest->p.nodes.length+qO l<=4096 ->
  G.L nd par k d p=some (.ok ⟨p.pos+(vW l).length+1,p.nodes.modify nd (λx=>{ x with items:=x.items++rB p.nodes.length l })++kM p.nodes.length l,p.au++G3 p.pos p.nodes.length p.au.length par k l⟩)
 D:∀(l:s9) (nd par k d:Nat) (last:ζ) (p:PV) (rest:List UInt8),2*(qN l).length+2<=m->L9 (d+1) (if k=0 then none else some last) l->nd<p.nodes.length->s.data.toList.drop p.pos=qN l++101::rest->p.nodes.length+nU l<=4096 ->
  G.D nd par k d last p=some (.ok ⟨p.pos+(qN l).length+1,p.nodes.modify nd (λx=>{ x with keys:=x.keys++gV p.nodes.length l,items:=x.items++jh p.nodes.length l })++iJ p.nodes.length l,p.au++G4 p.pos p.nodes.length p.au.length par k l⟩)
theorem lI (v:tW):1<=fY v:=by cases v<;>simp[fY]
theorem RC {s:ζ}{m:Nat}{p:PV}(h:s7 s m=some (.ok p)):p.nodes.length<=4096:=by
 unfold s7 at h;split at h
 .cases h
 .split at h
  .cases h
  .cases h
  .rename_i n p1 hv;split at h
   .cases h
   .cases h;exact ((rh s m).V _ _ _ _ _ ⟨by simp,by simp,by simp,by simp⟩ hv).1 0 |>.inv.nodes
end
end Go.Sh
