
import Derived.Test.YtcdofopdlaebaaaGreatDoorCards
import Derived.Test.YtcdofopdlaebaaaGreatDoorTie
import Derived.Test.YtcdofopdlaebaaaGreatDoorAgoK
import Derived.Test.YtcdofopdlaebaaaGreatDoorShelf
import Derived.ProofKit
import Derived.OpenShut
import Derived.Deep.DeepWitnessRowRef
import Derived.Lib.LaidU8T
import Derived.PinnedBridge
import Derived.Stop.LaidErr
namespace Go.Proofs.YtcdofopdlaebaaaGreatDoor
open Go.ChangeShapes Go.WideShapes Go.ChangeAt Go.RowKit Go.Shelf Go.Lib Go.Ago
theorem own:ownKnob Tryz.prog.godebug=none:=by kernel_rfl
theorem star : "*errors.errorString" = "*" ++ "errors.errorString" := by kernel_rfl
theorem ZB (u:TypeId) (h:Tryz.prog.typeName? 3 u=some "*errors.errorString"):u=224:=
 typeName_ptr_named (P:=Tryz.prog) (nm := "errors.errorString") (by kernel_rfl) (by kernel_rfl) (by decide) u (by rw[<-star];exact h)
def ZC:Ren:=⟨λn=>n,λ| 5=>5|119=>154|138=>157|139=>158|n=>n,λ| 3=>1|4=>2|n=>n⟩
theorem XV:U8Types Tryz.prog ZC:=⟨by kernel_rfl,by kernel_rfl,by kernel_rfl,by kernel_rfl⟩
theorem XW:U8Extra Tryz.prog ZC:=⟨by kernel_rfl,by kernel_rfl,by kernel_rfl,by kernel_rfl,by kernel_rfl,by kernel_rfl,by kernel_rfl⟩
theorem Q1:(Rows.laid_unicode_utf8_acceptRanges:DataW Unit)=acceptData:=by kernel_rfl
theorem pow_eq:(Rows.laid_internal_strconv_uint64pow10:DataW Unit)=tabData .u64 Lib.pow10Tab:=by kernel_rfl
theorem abj:(Rows.laid_math_bits_deBruijn64tab:DataW Unit)=tabData .u8 (FV.map λn:Nat=>(n:Int)):=by kernel_rfl
theorem T8 {P:Program}{w:World}{n:String}{g:Nat}{cs:Array Value}(hg:P.globalNamed n=some g)(h:w.var? P n=some cs):∃t fz,w.heap[g]?=some (.cells cs t fz):=by
 simp only[World.var?,hg,aeD] at h;split at h
 .rename_i cs' t fz hh;cases h;exact⟨t,fz,hh⟩
 .cases h
theorem XX {W:World}(h:laidMetH Tryz.prog Rows.equalRelatesRow.laid W):laidMet Tryz.prog Rows.equalRelatesRow.laid W:=h
theorem XY {W:World}(h:laidMetH Tryz.prog Rows.equalRelatesRow.laid W):mV W:=by
 have h:=XX h;have t:=utf8Tabs_of_readsT XV XW (w:=W) (by
  rw[<-Pinned.utf8First_eq];exact laidMet.reads h (by simp[Rows.equalRelatesRow,Rows.laid_unicode_utf8_first])) (by
  rw[<-Q1];exact laidMet.reads h (by simp[Rows.equalRelatesRow]))
 have hr:laidMet Tryz.prog (("strconv.ErrRange", Rows.laid_strconv_ErrRange)::("strconv.ErrSyntax", Rows.laid_strconv_ErrSyntax)::("unicode/utf8.first", Rows.laid_unicode_utf8_first)::[]) W:=h.tail.tail.tail.tail
 obtain⟨a,s,v1,_⟩:=laid_sentinel (g:=5) (ti:=107) (tp:=224) (te:=226) (ts:=9) hr (by kernel_rfl) (by kernel_rfl) Tryz.underlying107 ZB (by kernel_rfl) Tryz.underlying226 (by kernel_rfl) (by kernel_rfl) (by kernel_rfl) (by kernel_rfl) (by kernel_rfl);obtain⟨a2,s2,v2,_⟩:=laid_sentinel (g:=4) (ti:=107) (tp:=224) (te:=226) (ts:=9) hr.tail (by kernel_rfl) (by kernel_rfl) Tryz.underlying107 ZB (by kernel_rfl) Tryz.underlying226 (by kernel_rfl) (by kernel_rfl) (by kernel_rfl) (by kernel_rfl) (by kernel_rfl);have rp:VarReads Tryz.prog W "internal/strconv.uint64pow10" (tabData .u64 Lib.pow10Tab) :=by
  rw[<-pow_eq];exact laidMet.reads h (by simp[Rows.equalRelatesRow])
 have rd:VarReads Tryz.prog W "math/bits.deBruijn64tab" (tabData .u8 (FV.map λn:Nat=>(n:Int))) :=by
  rw[<-abj];exact laidMet.reads h (by simp[Rows.equalRelatesRow])
 have hp:∃tp fz,W.heap[7]?=some (.cells (Lib.pow10Tab.map λz=>Value.int .u64 z).toArray tp fz):=by
  obtain⟨g,tt,cs,fuel,p,hg,hty,hvar,hd⟩:=rp;obtain rfl:=abi ((show Tryz.prog.globalNamed "internal/strconv.uint64pow10" = some 7 by kernel_rfl).symm.trans hg)
  obtain rfl:=abi ((show (Tryz.prog.globals[7]?).map (·.type)=some 230 by kernel_rfl).symm.trans hty)
  have hcs:=cells_of_tab Tryz.underlying230 Tryz.underlying121 (by kernel_rfl) (by kernel_rfl) hd;obtain⟨t2,fz,e⟩:=T8 hg hvar;refine⟨t2,fz,?_⟩;rw[e,<-hcs]
 have hdb:∀i,i<64->W.cell? ⟨6,i,none⟩=some (.int .u8 (Hl i)):=by
  obtain⟨g,tt,cs,fuel,p,hg,hty,hvar,hd⟩:=rd;obtain rfl:=abi ((show Tryz.prog.globalNamed "math/bits.deBruijn64tab" = some 6 by kernel_rfl).symm.trans hg)
  obtain rfl:=abi ((show (Tryz.prog.globals[6]?).map (·.type)=some 205 by kernel_rfl).symm.trans hty)
  have hcs:=cells_of_tab Tryz.underlying205 Tryz.underlying5 (by kernel_rfl) (by kernel_rfl) hd;intro i hi;have h1:=World.var?_cell hg hvar i;rw[h1,<-acQ,hcs,agr,aaW,aaJ (by show i<FV.length;have:FV.length=64:=rfl;omega)];unfold Hl;rw[acP,aaJ (by have:FV.length=64:=rfl;omega)];rfl
 refine⟨t.1,t.2,⟨.iface 224 (.pointer (some a2)),?_,.inr ⟨_,_,rfl⟩⟩,⟨.iface 224 (.pointer (some a)),?_,.inr ⟨_,_,rfl⟩⟩,hp,hdb⟩
 .have:=World.var?_cell (g:=4) (by kernel_rfl) v2 0;simpa using this
 .have:=World.var?_cell (g:=5) (by kernel_rfl) v1 0;simpa using this
def Bz:Nat->DataW Unit->List Value
 |n+1,.lit (.int k z)=>[.int k z]
 |n+1,.agg l=>l.flatMap (Bz n)
 |_,_=>[]
def ZD:DataW Unit->List UInt8
 |.iface _ (.ptr (.agg [.lit (.string l)]))=>l
 |_=>[]
def setCells (cs:List Value):Obj->Obj
 |.cells _ t fr=>.cells cs.toArray t fr
 |o=>o
noncomputable def low (os:Os):Nat:=(World.holding Tryz.prog os ⟨#[],#[],[]⟩).heap.size
noncomputable def BA (os:Os):World:=
 let w0:=World.holding Tryz.prog os ⟨#[.cells #[.string ⟨(ZD Rows.laid_strconv_ErrSyntax).toArray⟩] 226,.cells #[.string ⟨(ZD Rows.laid_strconv_ErrRange).toArray⟩] 226],#[],[]⟩
 { w0 with heap:=((((((w0.heap.modify 1 (setCells (Bz 4 Rows.laid_unicode_utf8_first))).modify 2 (setCells (Bz 4 Rows.laid_unicode_utf8_acceptRanges))).modify 4 (setCells [.iface 224 (.pointer (some ⟨low default,0,none⟩))])).modify 5
   (setCells [.iface 224 (.pointer (some ⟨low default+1,0,none⟩))])).modify 7 (setCells (Bz 4 Rows.laid_internal_strconv_uint64pow10))).modify 8 (setCells (Bz 4 Rows.laid_math_bits_deBruijn32tab))).modify 6 (setCells (Bz 4 Rows.laid_math_bits_deBruijn64tab)) }
set_option maxRecDepth 100000 in
theorem T9 (os:Os)(args:Array Value):laidMet Tryz.prog Rows.equalRelatesRow.laid ((BA os).forCall (λ_ _=>0) ⟨#[],args,[]⟩).memory:=
 laidMet_of_run' 8 (by kernel_rfl) (by kernel_rfl)
end Go.Proofs.YtcdofopdlaebaaaGreatDoor
