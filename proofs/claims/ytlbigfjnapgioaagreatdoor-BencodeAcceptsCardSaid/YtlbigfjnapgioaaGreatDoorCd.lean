
import Derived.Test.YtlbigfjnapgioaaGreatDoorCards
import Derived.Test.YtlbigfjnapgioaaGreatDoorTie
import Derived.Test.YtlbigfjnapgioaaGreatDoorAgoK
import Derived.Test.YtlbigfjnapgioaaGreatDoorShelf
import Derived.WalkKit
import Derived.ProofKit
import Derived.OpenShut
import Derived.ChangeMaps5
import Derived.Deep.DeepHandedRow
import Derived.Deep.DeepWitnessRowRef
import Derived.Lib.LaidTab
import Derived.Lib.LaidU8T
import Derived.PinnedBridge
import Derived.Stop.LaidErr
set_option linter.all false
namespace Go.Proofs.YtlbigfjnapgioaaGreatDoor
open Go.ChangeShapes Go.WideShapes Go.ChangeAt Go.RowKit Go.Shelf Go.Lib Go.Ago
theorem own : ownKnob Tryz.prog.godebug = none:=by kernel_rfl
theorem star : "*errors.errorString" = "*" ++ "errors.errorString" := by kernel_rfl
theorem rowEs (u : TypeId) (h : Tryz.prog.typeName? 3 u = some "*errors.errorString") : u = 298 :=
 typeName_ptr_named (P := Tryz.prog) (nm := "errors.errorString") (by kernel_rfl) (by kernel_rfl) (by decide) u (by rw [← star]; exact h)
theorem u8types : U8Types Tryz.prog Tryz.lays197_ren:=⟨by kernel_rfl,by kernel_rfl,by kernel_rfl,by kernel_rfl⟩
theorem u8extra : U8Extra Tryz.prog Tryz.lays197_ren:=⟨by kernel_rfl,by kernel_rfl,by kernel_rfl,by kernel_rfl,by kernel_rfl,by kernel_rfl,by kernel_rfl⟩
theorem accept_eq : (Rows.laid_unicode_utf8_acceptRanges : DataW Unit) = acceptData:=by kernel_rfl
theorem laid_eq {W : World} (h : laidMetH Tryz.prog Rows.bencodeSpansRow.laid W) : laidMet Tryz.prog Rows.bencodeSpansRow.laid W:=h
theorem libfact {W : World} (h : laidMetH Tryz.prog Rows.bencodeSpansRow.laid W) : LibFact W:=by
 have h:=laid_eq h
 have t:=utf8Tabs_of_readsT u8types u8extra (w:=W) (by
  rw [← Pinned.utf8First_eq]
  exact laidMet.reads h (by simp [Rows.bencodeSpansRow,Rows.laid_unicode_utf8_first])) (by
  rw [← accept_eq]
  exact laidMet.reads h (by simp [Rows.bencodeSpansRow]))
 have hr : laidMet Tryz.prog (("strconv.ErrRange", Rows.laid_strconv_ErrRange) :: ("strconv.ErrSyntax", Rows.laid_strconv_ErrSyntax) :: ("unicode/utf8.first", Rows.laid_unicode_utf8_first) :: []) W := h.tail.tail.tail.tail
 obtain ⟨a,s,v1,_⟩:=laid_sentinel (g:=5) (ti:=123) (tp:=298) (te:=300) (ts:=9) hr (by kernel_rfl) (by kernel_rfl) Tryz.underlying123 rowEs (by kernel_rfl) Tryz.underlying300 (by kernel_rfl) (by kernel_rfl) (by kernel_rfl) (by kernel_rfl) (by kernel_rfl)
 obtain ⟨a2,s2,v2,_⟩:=laid_sentinel (g:=4) (ti:=123) (tp:=298) (te:=300) (ts:=9) hr.tail (by kernel_rfl) (by kernel_rfl) Tryz.underlying123 rowEs (by kernel_rfl) Tryz.underlying300 (by kernel_rfl) (by kernel_rfl) (by kernel_rfl) (by kernel_rfl) (by kernel_rfl)
 refine ⟨t.1,t.2,⟨.iface 298 (.pointer (some a2)),?_,.inr ⟨_,_,rfl⟩⟩,⟨.iface 298 (.pointer (some a)),?_,.inr ⟨_,_,rfl⟩⟩⟩
 ·have:=World.var?_cell (g:=4) (by kernel_rfl) v2 0
  simpa using this
 ·have:=World.var?_cell (g:=5) (by kernel_rfl) v1 0
  simpa using this
def cellsD : Nat → DataW Unit → List Value
 | n + 1,.lit (.int k z)=>[.int k z]
 | n + 1,.agg l=>l.flatMap (cellsD n)
 | _,_=>[]
def textD : DataW Unit → List UInt8
 | .iface _ (.ptr (.agg [.lit (.string l)]))=>l
 | _=>[]
def setCells (cs : List Value) : Obj → Obj
 | .cells _ t fr=>.cells cs.toArray t fr
 | o=>o
noncomputable def low (os : Os) : Nat:=(World.holding Tryz.prog os ⟨#[],#[],[]⟩).heap.size
noncomputable def laidWorld (os : Os) : World :=
 let w0:=World.holding Tryz.prog os ⟨#[.cells #[.string ⟨(textD Rows.laid_strconv_ErrSyntax).toArray⟩] 300,.cells #[.string ⟨(textD Rows.laid_strconv_ErrRange).toArray⟩] 300],#[],[]⟩
 { w0 with heap:=((((((w0.heap.modify 0 (setCells (cellsD 4 Rows.laid_unicode_utf8_first))).modify 1 (setCells (cellsD 4 Rows.laid_unicode_utf8_acceptRanges))).modify 4 (setCells [.iface 298 (.pointer (some ⟨low default,0,none⟩))])).modify 5
   (setCells [.iface 298 (.pointer (some ⟨low default + 1,0,none⟩))])).modify 6 (setCells (cellsD 4 Rows.laid_internal_strconv_uint64pow10))).modify 8 (setCells (cellsD 4 Rows.laid_math_bits_deBruijn32tab))).modify 7 (setCells (cellsD 4 Rows.laid_math_bits_deBruijn64tab)) }
set_option maxRecDepth 100000 in
theorem laid_met (os : Os) (args : Array Value) : laidMet Tryz.prog Rows.bencodeSpansRow.laid ((laidWorld os).forCall (fun _ _=>0) ⟨#[],args,[]⟩).memory :=
 laidMet_of_run' 8 (by kernel_rfl) (by kernel_rfl)
end Go.Proofs.YtlbigfjnapgioaaGreatDoor
