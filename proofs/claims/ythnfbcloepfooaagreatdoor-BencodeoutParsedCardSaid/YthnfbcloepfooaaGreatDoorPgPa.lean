
import Derived.Test.YthnfbcloepfooaaGreatDoorPaf
import Derived.Test.YthnfbcloepfooaaGreatDoorPag
import Derived.Test.YthnfbcloepfooaaGreatDoorSl0Pa
set_option linter.all false
namespace Go.Ago
open Go
variable {h:af}
theorem Cl.sub {a:Addr}{vs:δ}{g o n:Nat}(c:Cl h a vs g)(ho:o+n<=vs.length):Cl h (a.plus o) ((vs.drop o).take n) g:=by
 obtain⟨h1,c,base,e,h2,h3,h4⟩:=c;have hl:((vs.drop o).take n).length=n:=by simp;omega
 refine⟨rfl,c,base,e,h2,?_,?_⟩
 .show a.off+o+_<=_;rw[hl];omega
 .show (c.drop (a.off+o)).take _=_;rw[hl]
  conv=>rhs;rw[<-h4]
  rw[List.drop_take,List.take_take,aa3]
  congr 1;omega
end Go.Ago
namespace Go.Sh
open Go Go.Ago Go.Proofs
variable {β:Type}{h h' h0:af}{L:List dh}{Q:β->af->Prop}{S:dO}
theorem St.gr (st:St h S):mE h S.sU (S.nodes.map eo.v):=by
 refine⟨S.nodes,S.ng,rfl,st.nodes.DE,λx hx=>?_⟩;obtain⟨i,hi⟩:=List.mem_iff_getElem?.1 hx;exact⟨⟨_,(st.keys i x hi).DE⟩,⟨_,(st.items i x hi).DE⟩⟩
theorem Ue (v:tW)(hn:fY v<=4096):Bd (fK 0 v) 4096:=by
 have h1:=uy v 0;refine⟨by rw[cp];exact hn,by omega,λx hx=>?_⟩;have h2:(refs x).length<=(jX (fK 0 v)).length:=(acs (List.mem_map_of_mem hx)).length_le;unfold refs at h2;rw[aaa] at h2;omega
mutual
theorem KU:∀(v:tW) (b:Nat),∀x∈fK b v,x.text.size<=(enc v).length
 |.int t,b,x,hx=>by
  rw[fK,aat] at hx;subst hx;have:=bF t;simp only[enc,aae,aaa,aam];omega
 |.str t,b,x,hx=>by
  rw[fK,aat] at hx;subst hx;have:=bF t;simp only[enc,uw,aae,aaa];omega
 |.list l,b,x,hx=>by
  rw[fK] at hx;simp only[enc,aae,aaa,aam];rcases List.mem_cons.1 hx with rfl|hx
  .exact abO _
  .have:=My l _ x hx;omega
 |.map l,b,x,hx=>by
  rw[fK] at hx;simp only[enc,aae,aaa,aam];rcases List.mem_cons.1 hx with rfl|hx
  .exact abO _
  .have:=Mz l _ x hx;omega
theorem My:∀(l:Az) (b:Nat),∀x∈kM b l,x.text.size<=(vW l).length
 |.nil,b,x,hx=>by rw[kM] at hx;cases hx
 |.cons v l,b,x,hx=>by
  rw[kM] at hx;simp only[vW,aaa];rcases List.mem_append.1 hx with hx|hx
  .have:=KU v _ x hx;omega
  .have:=My l _ x hx;omega
theorem Mz:∀(l:s9) (b:Nat),∀x∈iJ b l,x.text.size<=(qN l).length
 |.nil,b,x,hx=>by rw[iJ] at hx;cases hx
 |.cons k v l,b,x,hx=>by
  rw[iJ] at hx;simp only[qN,aaa];rcases List.mem_cons.1 hx with rfl|hx
  .have:=bF k;simp only[uw,aaa,aae];omega
  .rcases List.mem_append.1 hx with hx|hx
   .have:=KU v _ x hx;omega
   .have:=Mz l _ x hx;omega
end
theorem Uf {v:tW}:∀x∈fK 0 v,∀y∈x.items,∃z,gt (fK 0 v) y=some z:=by
 intro x hx y hy;have hr:y∈jX (fK 0 v):=List.mem_flatMap.2 ⟨x,hx,by unfold refs;exact aaE _ hy⟩;obtain⟨j,rfl,_,h2⟩:=G5 hr (AD v 0 y hr);obtain⟨z,hz⟩:=gU (l:=fK 0 v) (i:=j) (by rw[cp];omega);exact⟨z,by rw[kD];exact hz⟩
theorem KV (s:ζ):ofBytes s.data.toList=s:=by
 cases s;unfold ofBytes;simp
theorem Pc (s:ζ)(h:af)(hw:WF h):Wp (gW 20000000 s) h λx _=>x=true:=by
 unfold gW AM;by_cases hbig:(500:Int)<(s.size:Int)
 .rw[BY (by simpa using hbig),ag,ah,ah]
 rw[By (by simpa using hbig)];have hs:s.size<=500:=by omega
 obtain⟨r,hr⟩:=G0 s 1100 (by omega);rw[ag];refine (AH hw (by omega) hr).mono λx h1 hx=>?_;obtain⟨f1,hx⟩:=hx;have w:Z h1 h1 []:=Z.start f1.wf;cases r with
 |error e=>
  obtain⟨rfl,he⟩:=hx;refine w.new λb h2 w _=>w.st 0 (o:=0) (cs':=[vi 0,.string (ofBytes []),aS jb,vi 0,aS jb,aS jb]) λh3 w=>?_;rw[BY (by simpa using he),ag,ah,ah]
 |ok p=>
  obtain⟨S,st,_,rfl,hN,hS⟩:=hx;obtain⟨v,v1,v2,v3,rfl⟩:=ON hr;have hnn:=RC hr;simp only at hN hS hnn;rw[cp] at hnn;have G:mE h1 S.sU (fK 0 v):=by have:=St.gr st;rw[hN] at this;exact this
  have hsl:(enc v).length=s.size:=by rw[<-v2,bF]
  have hB:=Ue v hnn;have ht:∀x∈fK 0 v,x.text.size<=65536:=λx hx=>by have:=KU v 0 x hx;omega
  have hgc:sq 135300 (fK 0 v) 0=some 0:=A7 v1 hnn (by omega);obtain⟨r0,hr0⟩:=gU (l:=fK 0 v) (i:=0) (by rw[cp];exact lI v);obtain⟨r,hr1,hr2⟩:=OY (v:=v) hnn;have hdag:=Dq v1;have pr:=Hf v 0 0 (Pt.self (fK 0 v)) v1 (by omega);refine w.new λb h2 w _=>w.st 0 (o:=0) (cs':=[vi 5,.string s,aS S.sU,vi 0,aS S.Ba,aS jb]) λh3 w=>?_;rw[By (by simp)];refine (Cl.sub (LB.cl (w.get 0 rfl)) (o:=2) (n:=2) (by show 4<=6;decide)).jV (ls:=[.sl,li]) (x:=(S.sU,0)) rfl ?_;rw[ag];refine (Se (H:=λy=>rk v y.toNat) w G hB ht (λx hx hk _=>Hc v 0 0 (Pt.self _) v1 (by omega) x hx hk) (λa x hx y hy=>?_) (r0:=r0) (by rw[show (0:Int)=((0:Nat):Int) from rfl,kD];exact hr0) hr1 hr2 (k:=135300) (d:=34) (by omega) hgc pr (by unfold cN;omega)).mono λy h4 hy=>?_
  .obtain⟨g1,g2⟩:=bH hx;obtain⟨j,rfl,j1,j2⟩:=hdag a.toNat x g2 y (by unfold refs;exact aaE _ hy);exact⟨j2,Uf x (OF g2) _ hy⟩
  obtain⟨hy,w⟩:=hy;rw[By (by simp),By (by omega),<-v2,KV] at hy;subst hy;rw[ag,ah,BY rfl,BY (by rfl),ah];exact vr _
end Go.Sh
