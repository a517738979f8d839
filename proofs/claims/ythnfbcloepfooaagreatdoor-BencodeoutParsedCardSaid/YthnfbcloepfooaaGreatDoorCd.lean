
import Derived.Test.YthnfbcloepfooaaGreatDoorCards
import Derived.Test.YthnfbcloepfooaaGreatDoorTie
import Derived.Test.YthnfbcloepfooaaGreatDoorAgoK
import Derived.Test.YthnfbcloepfooaaGreatDoorShelf
import Derived.ProofKit
import Derived.OpenShut
import Derived.Deep.DeepWitnessRowRef
import Derived.Lib.LaidU8T
import Derived.PinnedBridge
import Derived.Stop.LaidErr
set_option linter.all false
namespace Go.Proofs.YthnfbcloepfooaaGreatDoor
open Go.ChangeShapes Go.WideShapes Go.ChangeAt Go.RowKit Go.Shelf Go.Lib Go.Ago
theorem own:ownKnob Tryz.prog.godebug=none:=by kernel_rfl
theorem star : "*errors.errorString" = "*" ++ "errors.errorString" := by kernel_rfl
theorem Uq (u : κ) (h : Tryz.prog.typeName? 3 u = some "*errors.errorString") : u = 242:=
 typeName_ptr_named (P := Tryz.prog) (nm := "errors.errorString") (by kernel_rfl) (by kernel_rfl) (by decide) u (by rw[<-star]; exact h)
def Ur:Ren:=⟨λn=>n,λ| 5=>5|119=>133|138=>135|139=>136|n=>n,λ| 3=>0|4=>1|n=>n⟩
theorem Tk:U8Types Tryz.prog Ur:=⟨by kernel_rfl,by kernel_rfl,by kernel_rfl,by kernel_rfl⟩
theorem Tl:U8Extra Tryz.prog Ur:=⟨by kernel_rfl,by kernel_rfl,by kernel_rfl,by kernel_rfl,by kernel_rfl,by kernel_rfl,by kernel_rfl⟩
theorem M6:(Rows.laid_unicode_utf8_acceptRanges:DataW Unit)=acceptData:=by kernel_rfl
theorem pow_eq:(Rows.laid_internal_strconv_uint64pow10:DataW Unit)=tabData .u64 Lib.pow10Tab:=by kernel_rfl
theorem Qe {P:Program}{w:World}{n:String}{g:Nat}{cs:ν}(hg:P.globalNamed n=some g)(h:w.var? P n=some cs):∃t fz,w.heap[g]?=some (.cells cs t fz):=by
 simp only[World.var?,hg,aaA] at h;split at h
 .rename_i cs' t fz hh;cases h;exact⟨t,fz,hh⟩
 .cases h
theorem Tm {W:World}(h:laidMetH Tryz.prog Rows.bencodeoutParsedRow.laid W):laidMet Tryz.prog Rows.bencodeoutParsedRow.laid W:=h
theorem Tn {W:World}(h:laidMetH Tryz.prog Rows.bencodeoutParsedRow.laid W):jz W:=by
 have h:=Tm h;have t:=utf8Tabs_of_readsT Tk Tl (w:=W) (by
  rw[<-Pinned.utf8First_eq];exact laidMet.reads h (by simp[Rows.bencodeoutParsedRow,Rows.laid_unicode_utf8_first])) (by
  rw[<-M6];exact laidMet.reads h (by simp[Rows.bencodeoutParsedRow]))
 have rp : VarReads Tryz.prog W "internal/strconv.uint64pow10" (tabData .u64 Lib.pow10Tab) :=by
  rw[<-pow_eq];exact laidMet.reads h (by simp[Rows.bencodeoutParsedRow])
 have hp:∃tp fz,W.heap[6]?=some (.cells (Lib.pow10Tab.map λz=>Value.int .u64 z).toArray tp fz):=by
  obtain⟨g,tt,cs,fuel,p,hg,hty,hvar,hd⟩:=rp;obtain rfl := aao ((show Tryz.prog.globalNamed "internal/strconv.uint64pow10" = some 6 by kernel_rfl).symm.trans hg)
  obtain rfl:=aao ((show (Tryz.prog.globals[6]?).map (·.type)=some 226 by kernel_rfl).symm.trans hty)
  have hcs:=cells_of_tab Tryz.underlying226 Tryz.underlying149 (by kernel_rfl) (by kernel_rfl) hd;obtain⟨t2,fz,e⟩:=Qe hg hvar;refine⟨t2,fz,?_⟩;rw[e,<-hcs]
 have hr : laidMet Tryz.prog (("strconv.ErrRange", Rows.laid_strconv_ErrRange) :: ("strconv.ErrSyntax", Rows.laid_strconv_ErrSyntax) :: ("unicode/utf8.first", Rows.laid_unicode_utf8_first) :: []) W := h.tail.tail.tail.tail
 obtain⟨a,s,v1,_⟩:=laid_sentinel (g:=5) (ti:=84) (tp:=242) (te:=244) (ts:=9) hr (by kernel_rfl) (by kernel_rfl) Tryz.underlying84 Uq (by kernel_rfl) Tryz.underlying244 (by kernel_rfl) (by kernel_rfl) (by kernel_rfl) (by kernel_rfl) (by kernel_rfl);obtain⟨a2,s2,v2,_⟩:=laid_sentinel (g:=4) (ti:=84) (tp:=242) (te:=244) (ts:=9) hr.tail (by kernel_rfl) (by kernel_rfl) Tryz.underlying84 Uq (by kernel_rfl) Tryz.underlying244 (by kernel_rfl) (by kernel_rfl) (by kernel_rfl) (by kernel_rfl) (by kernel_rfl);refine⟨t.1,t.2,⟨.iface 242 (.pointer (some a2)),?_,.inr ⟨_,_,rfl⟩⟩,⟨.iface 242 (.pointer (some a)),?_,.inr ⟨_,_,rfl⟩⟩,hp⟩
 .have:=World.var?_cell (g:=4) (by kernel_rfl) v2 0;simpa using this
 .have:=World.var?_cell (g:=5) (by kernel_rfl) v1 0;simpa using this
def Ab:Nat->DataW Unit->δ
 |n+1,.lit (.int k z)=>[.int k z]
 |n+1,.agg l=>l.flatMap (Ab n)
 |_,_=>[]
def Us:DataW Unit->List UInt8
 |.iface _ (.ptr (.agg [.lit (.string l)]))=>l
 |_=>[]
def setCells (cs:δ):Obj->Obj
 |.cells _ t fr=>.cells cs.toArray t fr
 |o=>o
noncomputable def low (os:Os):Nat:=(World.holding Tryz.prog os ⟨#[],#[],[]⟩).heap.size
noncomputable def Ac (os:Os):World:=
 let w0:=World.holding Tryz.prog os ⟨#[.cells #[.string ⟨(Us Rows.laid_strconv_ErrSyntax).toArray⟩] 244,.cells #[.string ⟨(Us Rows.laid_strconv_ErrRange).toArray⟩] 244],#[],[]⟩
 { w0 with heap:=((((((w0.heap.modify 0 (setCells (Ab 4 Rows.laid_unicode_utf8_first))).modify 1 (setCells (Ab 4 Rows.laid_unicode_utf8_acceptRanges))).modify 4 (setCells [.iface 242 (.pointer (some ⟨low default,0,none⟩))])).modify 5
   (setCells [.iface 242 (.pointer (some ⟨low default+1,0,none⟩))])).modify 6 (setCells (Ab 4 Rows.laid_internal_strconv_uint64pow10))).modify 8 (setCells (Ab 4 Rows.laid_math_bits_deBruijn32tab))).modify 7 (setCells (Ab 4 Rows.laid_math_bits_deBruijn64tab)) }
set_option maxRecDepth 100000 in
theorem Qf (os:Os)(args:ν):laidMet Tryz.prog Rows.bencodeoutParsedRow.laid ((Ac os).forCall (λ_ _=>0) ⟨#[],args,[]⟩).memory:=
 laidMet_of_run' 8 (by kernel_rfl) (by kernel_rfl)
end Go.Proofs.YthnfbcloepfooaaGreatDoor
