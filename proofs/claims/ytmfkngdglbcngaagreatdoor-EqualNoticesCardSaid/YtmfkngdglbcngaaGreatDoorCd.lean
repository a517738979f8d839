
import Derived.Test.YtmfkngdglbcngaaGreatDoorCards
import Derived.Test.YtmfkngdglbcngaaGreatDoorTie
import Derived.Test.YtmfkngdglbcngaaGreatDoorAgoK
import Derived.Test.YtmfkngdglbcngaaGreatDoorShelf
import Derived.ProofKit
import Derived.OpenShut
import Derived.Deep.DeepWitnessRowRef
import Derived.Lib.LaidU8T
import Derived.PinnedBridge
import Derived.Stop.LaidErr
set_option linter.all false
namespace Go.Proofs.YtmfkngdglbcngaaGreatDoor
open Go.ChangeShapes Go.WideShapes Go.ChangeAt Go.RowKit Go.Shelf Go.Lib Go.Ago
theorem own:ownKnob Tryz.prog.godebug=none:=by kernel_rfl
theorem star : "*errors.errorString" = "*" ++ "errors.errorString" := by kernel_rfl
theorem aax (u : κ) (h : Tryz.prog.typeName? 3 u = some "*errors.errorString") : u = 223:=
 typeName_ptr_named (P := Tryz.prog) (nm := "errors.errorString") (by kernel_rfl) (by kernel_rfl) (by decide) u (by rw[<-star]; exact h)
def aay:Ren:=⟨λn=>n,λ| 5=>5|119=>153|138=>156|139=>157|n=>n,λ| 3=>1|4=>2|n=>n⟩
theorem YL:U8Types Tryz.prog aay:=⟨by kernel_rfl,by kernel_rfl,by kernel_rfl,by kernel_rfl⟩
theorem YM:U8Extra Tryz.prog aay:=⟨by kernel_rfl,by kernel_rfl,by kernel_rfl,by kernel_rfl,by kernel_rfl,by kernel_rfl,by kernel_rfl⟩
theorem RR:(Rows.laid_unicode_utf8_acceptRanges:DataW Unit)=acceptData:=by kernel_rfl
theorem pow_eq:(Rows.laid_internal_strconv_uint64pow10:DataW Unit)=tabData .u64 Lib.pow10Tab:=by kernel_rfl
theorem acp:(Rows.laid_math_bits_deBruijn64tab:DataW Unit)=tabData .u8 (GS.map λn:Nat=>(n:Int)):=by kernel_rfl
theorem US {P:Program}{w:World}{n:String}{g:Nat}{cs:ν}(hg:P.globalNamed n=some g)(h:w.var? P n=some cs):∃t fz,w.heap[g]?=some (.cells cs t fz):=by
 simp only[World.var?,hg,aeR] at h;split at h
 .rename_i cs' t fz hh;cases h;exact⟨t,fz,hh⟩
 .cases h
theorem YN {W:World}(h:laidMetH Tryz.prog Rows.equalNoticesRow.laid W):laidMet Tryz.prog Rows.equalNoticesRow.laid W:=h
theorem YO {W:World}(h:laidMetH Tryz.prog Rows.equalNoticesRow.laid W):nN W:=by
 have h:=YN h;have t:=utf8Tabs_of_readsT YL YM (w:=W) (by
  rw[<-Pinned.utf8First_eq];exact laidMet.reads h (by simp[Rows.equalNoticesRow,Rows.laid_unicode_utf8_first])) (by
  rw[<-RR];exact laidMet.reads h (by simp[Rows.equalNoticesRow]))
 have hr : laidMet Tryz.prog (("strconv.ErrRange", Rows.laid_strconv_ErrRange) :: ("strconv.ErrSyntax", Rows.laid_strconv_ErrSyntax) :: ("unicode/utf8.first", Rows.laid_unicode_utf8_first) :: []) W := h.tail.tail.tail.tail
 obtain⟨a,s,v1,_⟩:=laid_sentinel (g:=5) (ti:=106) (tp:=223) (te:=225) (ts:=9) hr (by kernel_rfl) (by kernel_rfl) Tryz.underlying106 aax (by kernel_rfl) Tryz.underlying225 (by kernel_rfl) (by kernel_rfl) (by kernel_rfl) (by kernel_rfl) (by kernel_rfl);obtain⟨a2,s2,v2,_⟩:=laid_sentinel (g:=4) (ti:=106) (tp:=223) (te:=225) (ts:=9) hr.tail (by kernel_rfl) (by kernel_rfl) Tryz.underlying106 aax (by kernel_rfl) Tryz.underlying225 (by kernel_rfl) (by kernel_rfl) (by kernel_rfl) (by kernel_rfl) (by kernel_rfl);have rp : VarReads Tryz.prog W "internal/strconv.uint64pow10" (tabData .u64 Lib.pow10Tab) :=by
  rw[<-pow_eq];exact laidMet.reads h (by simp[Rows.equalNoticesRow])
 have rd : VarReads Tryz.prog W "math/bits.deBruijn64tab" (tabData .u8 (GS.map λn : Nat => (n : Int))) :=by
  rw[<-acp];exact laidMet.reads h (by simp[Rows.equalNoticesRow])
 have hp:∃tp fz,W.heap[7]?=some (.cells (Lib.pow10Tab.map λz=>Value.int .u64 z).toArray tp fz):=by
  obtain⟨g,tt,cs,fuel,p,hg,hty,hvar,hd⟩:=rp;obtain rfl := ab0 ((show Tryz.prog.globalNamed "internal/strconv.uint64pow10" = some 7 by kernel_rfl).symm.trans hg)
  obtain rfl:=ab0 ((show (Tryz.prog.globals[7]?).map (·.type)=some 229 by kernel_rfl).symm.trans hty)
  have hcs:=cells_of_tab Tryz.underlying229 Tryz.underlying120 (by kernel_rfl) (by kernel_rfl) hd;obtain⟨t2,fz,e⟩:=US hg hvar;refine⟨t2,fz,?_⟩;rw[e,<-hcs]
 have hdb:∀i,i<64->W.cell? ⟨6,i,none⟩=some (.int .u8 (Ig i)):=by
  obtain⟨g,tt,cs,fuel,p,hg,hty,hvar,hd⟩:=rd;obtain rfl := ab0 ((show Tryz.prog.globalNamed "math/bits.deBruijn64tab" = some 6 by kernel_rfl).symm.trans hg)
  obtain rfl:=ab0 ((show (Tryz.prog.globals[6]?).map (·.type)=some 204 by kernel_rfl).symm.trans hty)
  have hcs:=cells_of_tab Tryz.underlying204 Tryz.underlying5 (by kernel_rfl) (by kernel_rfl) hd;intro i hi;have h1:=World.var?_cell hg hvar i;rw[h1,<-aeo,hcs,agT,abo,abi (by show i<GS.length;have:GS.length=64:=rfl;omega)];unfold Ig;rw[aeP,abi (by have:GS.length=64:=rfl;omega)];rfl
 refine⟨t.1,t.2,⟨.iface 223 (.pointer (some a2)),?_,.inr ⟨_,_,rfl⟩⟩,⟨.iface 223 (.pointer (some a)),?_,.inr ⟨_,_,rfl⟩⟩,hp,hdb⟩
 .have:=World.var?_cell (g:=4) (by kernel_rfl) v2 0;simpa using this
 .have:=World.var?_cell (g:=5) (by kernel_rfl) v1 0;simpa using this
def Cp:Nat->DataW Unit->δ
 |n+1,.lit (.int k z)=>[.int k z]
 |n+1,.agg l=>l.flatMap (Cp n)
 |_,_=>[]
def aaz:DataW Unit->List UInt8
 |.iface _ (.ptr (.agg [.lit (.string l)]))=>l
 |_=>[]
def setCells (cs:δ):Obj->Obj
 |.cells _ t fr=>.cells cs.toArray t fr
 |o=>o
noncomputable def low (os:Os):Nat:=(World.holding Tryz.prog os ⟨#[],#[],[]⟩).heap.size
noncomputable def Cq (os:Os):World:=
 let w0:=World.holding Tryz.prog os ⟨#[.cells #[.string ⟨(aaz Rows.laid_strconv_ErrSyntax).toArray⟩] 225,.cells #[.string ⟨(aaz Rows.laid_strconv_ErrRange).toArray⟩] 225],#[],[]⟩
 { w0 with heap:=((((((w0.heap.modify 1 (setCells (Cp 4 Rows.laid_unicode_utf8_first))).modify 2 (setCells (Cp 4 Rows.laid_unicode_utf8_acceptRanges))).modify 4 (setCells [.iface 223 (.pointer (some ⟨low default,0,none⟩))])).modify 5
   (setCells [.iface 223 (.pointer (some ⟨low default+1,0,none⟩))])).modify 7 (setCells (Cp 4 Rows.laid_internal_strconv_uint64pow10))).modify 8 (setCells (Cp 4 Rows.laid_math_bits_deBruijn32tab))).modify 6 (setCells (Cp 4 Rows.laid_math_bits_deBruijn64tab)) }
set_option maxRecDepth 100000 in
theorem UT (os:Os)(args:ν):laidMet Tryz.prog Rows.equalNoticesRow.laid ((Cq os).forCall (λ_ _=>0) ⟨#[],args,[]⟩).memory:=
 laidMet_of_run' 8 (by kernel_rfl) (by kernel_rfl)
end Go.Proofs.YtmfkngdglbcngaaGreatDoor
