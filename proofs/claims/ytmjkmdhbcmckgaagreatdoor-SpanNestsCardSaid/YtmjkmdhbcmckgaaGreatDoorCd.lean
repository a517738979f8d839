
import Derived.Test.YtmjkmdhbcmckgaaGreatDoorCards
import Derived.Test.YtmjkmdhbcmckgaaGreatDoorTie
import Derived.Test.YtmjkmdhbcmckgaaGreatDoorAgoK
import Derived.Test.YtmjkmdhbcmckgaaGreatDoorShelf
import Derived.WalkKit
import Derived.ProofKit
import Derived.OpenShut
import Derived.ChangeMaps5
import Derived.Deep.DeepHandedRow
import Derived.Deep.DeepWitnessRowRef
import Derived.Lib.LaidTab
import Derived.Lib.LaidU8T
import Derived.PinnedBridge
import Derived.Stop.LaidErr
set_option linter.all false
namespace Go.Proofs.YtmjkmdhbcmckgaaGreatDoor
open Go.ChangeShapes Go.WideShapes Go.ChangeAt Go.RowKit Go.Shelf Go.Lib Go.Ago
theorem own:ownKnob Tryz.prog.godebug=none:=by kernel_rfl
theorem star : "*errors.errorString" = "*" ++ "errors.errorString" := by kernel_rfl
theorem rowEs (u : TypeId) (h : Tryz.prog.typeName? 3 u = some "*errors.errorString") : u = 250 :=
 typeName_ptr_named (P := Tryz.prog) (nm := "errors.errorString") (by kernel_rfl) (by kernel_rfl) (by decide) u (by rw [← star]; exact h)
def u8ren:Ren:=⟨fun n=>n,fun | 5=>5 | 119=>186 | 138=>188 | 139=>189 | n=>n,fun | 3=>1 | 4=>2 | n=>n⟩
theorem u8types:U8Types Tryz.prog u8ren:=⟨by kernel_rfl,by kernel_rfl,by kernel_rfl,by kernel_rfl⟩
theorem u8extra:U8Extra Tryz.prog u8ren:=⟨by kernel_rfl,by kernel_rfl,by kernel_rfl,by kernel_rfl,by kernel_rfl,by kernel_rfl,by kernel_rfl⟩
theorem accept_eq:(Rows.laid_unicode_utf8_acceptRanges:DataW Unit)=acceptData:=by kernel_rfl
theorem pow_eq:(Rows.laid_internal_strconv_uint64pow10:DataW Unit)=tabData .u64 Lib.pow10Tab:=by kernel_rfl
theorem deb_eq:(Rows.laid_math_bits_deBruijn64tab:DataW Unit)=tabData .u8 (debL.map fun n:Nat=>(n:Int)):=by kernel_rfl
theorem var_heap {P:Program}{w:World}{n:String}{g:Nat}{cs:Array Value}(hg:P.globalNamed n=some g)(h:w.var? P n=some cs):∃ t fz,w.heap[g]?=some (.cells cs t fz):=by
 simp only [World.var?,hg,Option.bind_some] at h
 split at h
 ·rename_i cs' t fz hh;cases h;exact⟨t,fz,hh⟩
 ·cases h
theorem laid_eq {W:World}(h:laidMetH Tryz.prog Rows.spanNestsRow.laid W):laidMet Tryz.prog Rows.spanNestsRow.laid W:=h
theorem libfact {W:World}(h:laidMetH Tryz.prog Rows.spanNestsRow.laid W):LibFact W:=by
 have h:=laid_eq h
 have t:=utf8Tabs_of_readsT u8types u8extra (w:=W) (by
  rw [← Pinned.utf8First_eq]
  exact laidMet.reads h (by simp [Rows.spanNestsRow,Rows.laid_unicode_utf8_first])) (by
  rw [← accept_eq]
  exact laidMet.reads h (by simp [Rows.spanNestsRow]))
 have hr : laidMet Tryz.prog (("strconv.ErrRange", Rows.laid_strconv_ErrRange) :: ("strconv.ErrSyntax", Rows.laid_strconv_ErrSyntax) :: ("unicode/utf8.first", Rows.laid_unicode_utf8_first) :: []) W := h.tail.tail.tail.tail
 obtain⟨a,s,v1,_⟩:=laid_sentinel (g:=5) (ti:=141) (tp:=250) (te:=252) (ts:=9) hr (by kernel_rfl) (by kernel_rfl) Tryz.underlying141 rowEs (by kernel_rfl) Tryz.underlying252 (by kernel_rfl) (by kernel_rfl) (by kernel_rfl) (by kernel_rfl) (by kernel_rfl)
 obtain⟨a2,s2,v2,_⟩:=laid_sentinel (g:=4) (ti:=141) (tp:=250) (te:=252) (ts:=9) hr.tail (by kernel_rfl) (by kernel_rfl) Tryz.underlying141 rowEs (by kernel_rfl) Tryz.underlying252 (by kernel_rfl) (by kernel_rfl) (by kernel_rfl) (by kernel_rfl) (by kernel_rfl)
 have rp : VarReads Tryz.prog W "internal/strconv.uint64pow10" (tabData .u64 Lib.pow10Tab) := by
  rw [← pow_eq];exact laidMet.reads h (by simp [Rows.spanNestsRow])
 have rd : VarReads Tryz.prog W "math/bits.deBruijn64tab" (tabData .u8 (debL.map fun n : Nat => (n : Int))) := by
  rw [← deb_eq];exact laidMet.reads h (by simp [Rows.spanNestsRow])
 have hp:∃ tp fz,W.heap[7]?=some (.cells (Lib.pow10Tab.map fun z=>Value.int .u64 z).toArray tp fz):=by
  obtain⟨g,tt,cs,fuel,p,hg,hty,hvar,hd⟩:=rp
  obtain rfl := Option.some.inj ((show Tryz.prog.globalNamed "internal/strconv.uint64pow10" = some 7 by kernel_rfl).symm.trans hg)
  obtain rfl:=Option.some.inj ((show (Tryz.prog.globals[7]?).map (·.type)=some 256 by kernel_rfl).symm.trans hty)
  have hcs:=cells_of_tab Tryz.underlying256 Tryz.underlying158 (by kernel_rfl) (by kernel_rfl) hd
  obtain⟨t2,fz,e⟩:=var_heap hg hvar
  refine⟨t2,fz,?_⟩
  rw [e,← hcs]
 have hdb:∀ i,i<64→W.cell? ⟨6,i,none⟩=some (.int .u8 (debT i)):=by
  obtain⟨g,tt,cs,fuel,p,hg,hty,hvar,hd⟩:=rd
  obtain rfl := Option.some.inj ((show Tryz.prog.globalNamed "math/bits.deBruijn64tab" = some 6 by kernel_rfl).symm.trans hg)
  obtain rfl:=Option.some.inj ((show (Tryz.prog.globals[6]?).map (·.type)=some 233 by kernel_rfl).symm.trans hty)
  have hcs:=cells_of_tab Tryz.underlying233 Tryz.underlying5 (by kernel_rfl) (by kernel_rfl) hd
  intro i hi
  have h1:=World.var?_cell hg hvar i
  rw [h1,← Array.getElem?_toList,hcs,List.map_map,List.getElem?_map,List.getElem?_eq_getElem (by show i<debL.length;have:debL.length=64:=rfl;omega)]
  unfold debT
  rw [List.getD_eq_getElem?_getD,List.getElem?_eq_getElem (by have:debL.length=64:=rfl;omega)]
  rfl
 refine⟨t.1,t.2,⟨.iface 250 (.pointer (some a2)),?_,.inr ⟨_,_,rfl⟩⟩,⟨.iface 250 (.pointer (some a)),?_,.inr ⟨_,_,rfl⟩⟩,hp,hdb⟩
 ·have:=World.var?_cell (g:=4) (by kernel_rfl) v2 0
  simpa using this
 ·have:=World.var?_cell (g:=5) (by kernel_rfl) v1 0
  simpa using this
def cellsD:Nat→DataW Unit→List Value
 | n+1,.lit (.int k z)=>[.int k z]
 | n+1,.agg l=>l.flatMap (cellsD n)
 | _,_=>[]
def textD:DataW Unit→List UInt8
 | .iface _ (.ptr (.agg [.lit (.string l)]))=>l
 | _=>[]
def setCells (cs:List Value):Obj→Obj
 | .cells _ t fr=>.cells cs.toArray t fr
 | o=>o
noncomputable def low (os:Os):Nat:=(World.holding Tryz.prog os ⟨#[],#[],[]⟩).heap.size
noncomputable def laidWorld (os:Os):World :=
 let w0:=World.holding Tryz.prog os ⟨#[.cells #[.string ⟨(textD Rows.laid_strconv_ErrSyntax).toArray⟩] 252,.cells #[.string ⟨(textD Rows.laid_strconv_ErrRange).toArray⟩] 252],#[],[]⟩
 { w0 with heap:=((((((w0.heap.modify 1 (setCells (cellsD 4 Rows.laid_unicode_utf8_first))).modify 2 (setCells (cellsD 4 Rows.laid_unicode_utf8_acceptRanges))).modify 4 (setCells [.iface 250 (.pointer (some ⟨low default,0,none⟩))])).modify 5
   (setCells [.iface 250 (.pointer (some ⟨low default+1,0,none⟩))])).modify 7 (setCells (cellsD 4 Rows.laid_internal_strconv_uint64pow10))).modify 8 (setCells (cellsD 4 Rows.laid_math_bits_deBruijn32tab))).modify 6 (setCells (cellsD 4 Rows.laid_math_bits_deBruijn64tab)) }
set_option maxRecDepth 100000 in
theorem laid_met (os:Os)(args:Array Value):laidMet Tryz.prog Rows.spanNestsRow.laid ((laidWorld os).forCall (fun _ _=>0) ⟨#[],args,[]⟩).memory :=
 laidMet_of_run' 8 (by kernel_rfl) (by kernel_rfl)
end Go.Proofs.YtmjkmdhbcmckgaaGreatDoor
