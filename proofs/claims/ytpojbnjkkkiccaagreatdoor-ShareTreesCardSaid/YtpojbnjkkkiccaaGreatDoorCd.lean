
import Derived.Test.YtpojbnjkkkiccaaGreatDoorCards
import Derived.Test.YtpojbnjkkkiccaaGreatDoorTie
import Derived.Test.YtpojbnjkkkiccaaGreatDoorAgoK
import Derived.Test.YtpojbnjkkkiccaaGreatDoorShelf
import Derived.ProofKit
import Derived.OpenShut
import Derived.Deep.DeepWitnessRowRef
import Derived.Lib.LaidU8T
import Derived.PinnedBridge
import Derived.Stop.LaidErr
set_option linter.all false
namespace Go.Proofs.YtpojbnjkkkiccaaGreatDoor
open Go.ChangeShapes Go.WideShapes Go.ChangeAt Go.RowKit Go.Shelf Go.Lib Go.Ago
theorem own:ownKnob Tryz.prog.godebug=none:=by kernel_rfl
theorem star : "*errors.errorString" = "*" ++ "errors.errorString" := by kernel_rfl
def agp (u : κ) (h : Tryz.prog.typeName? 3 u = some "*errors.errorString") : u = 228:=
 typeName_ptr_named (P := Tryz.prog) (nm := "errors.errorString") (by kernel_rfl) (by kernel_rfl) (by decide) u (by rw[<-star]; exact h)
def agq:Ren:=⟨λn=>n,λ| 5=>5|119=>174|138=>176|139=>177|n=>n,λ| 3=>1|4=>2|n=>n⟩
def adF:U8Types Tryz.prog agq:=⟨by kernel_rfl,by kernel_rfl,by kernel_rfl,by kernel_rfl⟩
def adG:U8Extra Tryz.prog agq:=⟨by kernel_rfl,by kernel_rfl,by kernel_rfl,by kernel_rfl,by kernel_rfl,by kernel_rfl,by kernel_rfl⟩
theorem V8:(Rows.laid_unicode_utf8_acceptRanges:DataW Unit)=acceptData:=by kernel_rfl
theorem pow_eq:(Rows.laid_internal_strconv_uint64pow10:DataW Unit)=tabData .u64 Lib.pow10Tab:=by kernel_rfl
theorem aim:(Rows.laid_math_bits_deBruijn64tab:DataW Unit)=tabData .u8 (Lg.map λn:Nat=>(n:Int)):=by kernel_rfl
def Zn {P:Program}{w:World}{n:String}{g:Nat}{cs:ν}(hg:P.globalNamed n=some g)(h:w.var? P n=some cs):∃t fz,w.heap[g]?=some (.cells cs t fz):=by
 simp only[World.var?,hg,anQ] at h;split at h
 .rename_i cs' t fz hh;cases h;exact⟨t,fz,hh⟩
 .cases h
def adH {W:World}(h:laidMetH Tryz.prog Rows.shareTreesRow.laid W):laidMet Tryz.prog Rows.shareTreesRow.laid W:=h
def adI {W:World}(h:laidMetH Tryz.prog Rows.shareTreesRow.laid W):lr W:=by
 have h:=adH h;have t:=utf8Tabs_of_readsT adF adG (w:=W) (by
  rw[<-Pinned.utf8First_eq];exact laidMet.reads h (by simp[Rows.shareTreesRow,Rows.laid_unicode_utf8_first])) (by
  rw[<-V8];exact laidMet.reads h (by simp[Rows.shareTreesRow]))
 have hr : laidMet Tryz.prog (("strconv.ErrRange", Rows.laid_strconv_ErrRange) :: ("strconv.ErrSyntax", Rows.laid_strconv_ErrSyntax) :: ("unicode/utf8.first", Rows.laid_unicode_utf8_first) :: []) W := h.tail.tail.tail.tail
 obtain⟨a,s,v1,_⟩:=laid_sentinel (g:=5) (ti:=124) (tp:=228) (te:=230) (ts:=9) hr (by kernel_rfl) (by kernel_rfl) Tryz.underlying124 agp (by kernel_rfl) Tryz.underlying230 (by kernel_rfl) (by kernel_rfl) (by kernel_rfl) (by kernel_rfl) (by kernel_rfl);obtain⟨a2,s2,v2,_⟩:=laid_sentinel (g:=4) (ti:=124) (tp:=228) (te:=230) (ts:=9) hr.tail (by kernel_rfl) (by kernel_rfl) Tryz.underlying124 agp (by kernel_rfl) Tryz.underlying230 (by kernel_rfl) (by kernel_rfl) (by kernel_rfl) (by kernel_rfl) (by kernel_rfl);have rp : VarReads Tryz.prog W "internal/strconv.uint64pow10" (tabData .u64 Lib.pow10Tab) :=by
  rw[<-pow_eq];exact laidMet.reads h (by simp[Rows.shareTreesRow])
 have rd : VarReads Tryz.prog W "math/bits.deBruijn64tab" (tabData .u8 (Lg.map λn : Nat => (n : Int))) :=by
  rw[<-aim];exact laidMet.reads h (by simp[Rows.shareTreesRow])
 have hp:∃tp fz,W.heap[7]?=some (.cells (Lib.pow10Tab.map λz=>Value.int .u64 z).toArray tp fz):=by
  obtain⟨g,tt,cs,fuel,p,hg,hty,hvar,hd⟩:=rp;obtain rfl := acZ ((show Tryz.prog.globalNamed "internal/strconv.uint64pow10" = some 7 by kernel_rfl).symm.trans hg)
  obtain rfl:=acZ ((show (Tryz.prog.globals[7]?).map (·.type)=some 234 by kernel_rfl).symm.trans hty)
  have hcs:=cells_of_tab Tryz.underlying234 Tryz.underlying141 (by kernel_rfl) (by kernel_rfl) hd;obtain⟨t2,fz,e⟩:=Zn hg hvar;refine⟨t2,fz,?_⟩;rw[e,<-hcs]
 have hdb:∀i,i<64->W.cell? ⟨6,i,none⟩=some (.int .u8 (M5 i)):=by
  obtain⟨g,tt,cs,fuel,p,hg,hty,hvar,hd⟩:=rd;obtain rfl := acZ ((show Tryz.prog.globalNamed "math/bits.deBruijn64tab" = some 6 by kernel_rfl).symm.trans hg)
  obtain rfl:=acZ ((show (Tryz.prog.globals[6]?).map (·.type)=some 218 by kernel_rfl).symm.trans hty)
  have hcs:=cells_of_tab Tryz.underlying218 Tryz.underlying5 (by kernel_rfl) (by kernel_rfl) hd;intro i hi;have h1:=World.var?_cell hg hvar i;rw[h1,<-ahP,hcs,ao8,abh,aci (by show i<Lg.length;have:Lg.length=64:=rfl;omega)];unfold M5;rw[akC,aci (by have:Lg.length=64:=rfl;omega)];rfl
 refine⟨t.1,t.2,⟨.iface 228 (.pointer (some a2)),?_,.inr ⟨_,_,rfl⟩⟩,⟨.iface 228 (.pointer (some a)),?_,.inr ⟨_,_,rfl⟩⟩,hp,hdb⟩
 .have:=World.var?_cell (g:=4) (by kernel_rfl) v2 0;simpa using this
 .have:=World.var?_cell (g:=5) (by kernel_rfl) v1 0;simpa using this
def G0:Nat->DataW Unit->δ
 |n+1,.lit (.int k z)=>[.int k z]
 |n+1,.agg l=>l.flatMap (G0 n)
 |_,_=>[]
def agr:DataW Unit->List UInt8
 |.iface _ (.ptr (.agg [.lit (.string l)]))=>l
 |_=>[]
def setCells (cs:δ):Obj->Obj
 |.cells _ t fr=>.cells cs.toArray t fr
 |o=>o
noncomputable def low (os:Os):Nat:=(World.holding Tryz.prog os ⟨#[],#[],[]⟩).heap.size
noncomputable def G3 (os:Os):World:=
 let w0:=World.holding Tryz.prog os ⟨#[.cells #[.string ⟨(agr Rows.laid_strconv_ErrSyntax).toArray⟩] 230,.cells #[.string ⟨(agr Rows.laid_strconv_ErrRange).toArray⟩] 230],#[],[]⟩
 { w0 with heap:=((((((w0.heap.modify 1 (setCells (G0 4 Rows.laid_unicode_utf8_first))).modify 2 (setCells (G0 4 Rows.laid_unicode_utf8_acceptRanges))).modify 4 (setCells [.iface 228 (.pointer (some ⟨low default,0,none⟩))])).modify 5
   (setCells [.iface 228 (.pointer (some ⟨low default+1,0,none⟩))])).modify 7 (setCells (G0 4 Rows.laid_internal_strconv_uint64pow10))).modify 8 (setCells (G0 4 Rows.laid_math_bits_deBruijn32tab))).modify 6 (setCells (G0 4 Rows.laid_math_bits_deBruijn64tab)) }
set_option maxRecDepth 100000 in
def Zo (os:Os)(args:ν):laidMet Tryz.prog Rows.shareTreesRow.laid ((G3 os).forCall (λ_ _=>0) ⟨#[],args,[]⟩).memory:=
 laidMet_of_run' 8 (by kernel_rfl) (by kernel_rfl)
end Go.Proofs.YtpojbnjkkkiccaaGreatDoor
