
import Derived.Test.YthcljaholofonaaGreatDoorCards
import Derived.Test.YthcljaholofonaaGreatDoorTie
import Derived.Test.YthcljaholofonaaGreatDoorAgoK
import Derived.Test.YthcljaholofonaaGreatDoorShelf
import Derived.ProofKit
import Derived.OpenShut
import Derived.Deep.DeepWitnessRowRef
import Derived.Lib.LaidU8T
import Derived.PinnedBridge
import Derived.Stop.LaidErr
set_option linter.all false
namespace Go.Proofs.YthcljaholofonaaGreatDoor
open Go.ChangeShapes Go.WideShapes Go.ChangeAt Go.RowKit Go.Shelf Go.Lib Go.Ago
theorem own:ownKnob Tryz.prog.godebug=none:=by kernel_rfl
theorem star : "*errors.errorString" = "*" ++ "errors.errorString" := by kernel_rfl
def ahn (u : κ) (h : Tryz.prog.typeName? 3 u = some "*errors.errorString") : u = 296:=
 typeName_ptr_named (P := Tryz.prog) (nm := "errors.errorString") (by kernel_rfl) (by kernel_rfl) (by decide) u (by rw[<-star]; exact h)
def aho:Ren:=⟨λn=>n,λ| 5=>5|119=>120|138=>122|139=>123|n=>n,λ| 3=>0|4=>1|n=>n⟩
def aeJ:U8Types Tryz.prog aho:=⟨by kernel_rfl,by kernel_rfl,by kernel_rfl,by kernel_rfl⟩
def aeK:U8Extra Tryz.prog aho:=⟨by kernel_rfl,by kernel_rfl,by kernel_rfl,by kernel_rfl,by kernel_rfl,by kernel_rfl,by kernel_rfl⟩
theorem Wb:(Rows.laid_unicode_utf8_acceptRanges:DataW Unit)=acceptData:=by kernel_rfl
theorem pow_eq:(Rows.laid_internal_strconv_uint64pow10:DataW Unit)=tabData .u64 Lib.pow10Tab:=by kernel_rfl
theorem ajh:(Rows.laid_math_bits_deBruijn64tab:DataW Unit)=tabData .u8 (LM.map λn:Nat=>(n:Int)):=by kernel_rfl
def ZY {P:Program}{w:World}{n:String}{g:Nat}{cs:ν}(hg:P.globalNamed n=some g)(h:w.var? P n=some cs):∃t fz,w.heap[g]?=some (.cells cs t fz):=by
 simp only[World.var?,hg,anI] at h;split at h
 .rename_i cs' t fz hh;cases h;exact⟨t,fz,hh⟩
 .cases h
def aeL {W:World}(h:laidMetH Tryz.prog Rows.bencodeoutDiffersRow.laid W):laidMet Tryz.prog Rows.bencodeoutDiffersRow.laid W:=h
def aeM {W:World}(h:laidMetH Tryz.prog Rows.bencodeoutDiffersRow.laid W):nj W:=by
 have h:=aeL h;have t:=utf8Tabs_of_readsT aeJ aeK (w:=W) (by
  rw[<-Pinned.utf8First_eq];exact laidMet.reads h (by simp[Rows.bencodeoutDiffersRow,Rows.laid_unicode_utf8_first])) (by
  rw[<-Wb];exact laidMet.reads h (by simp[Rows.bencodeoutDiffersRow]))
 have hr : laidMet Tryz.prog (("strconv.ErrRange", Rows.laid_strconv_ErrRange) :: ("strconv.ErrSyntax", Rows.laid_strconv_ErrSyntax) :: ("unicode/utf8.first", Rows.laid_unicode_utf8_first) :: []) W := h.tail.tail.tail.tail
 obtain⟨a,s,v1,_⟩:=laid_sentinel (g:=6) (ti:=72) (tp:=296) (te:=298) (ts:=9) hr (by kernel_rfl) (by kernel_rfl) Tryz.underlying72 ahn (by kernel_rfl) Tryz.underlying298 (by kernel_rfl) (by kernel_rfl) (by kernel_rfl) (by kernel_rfl) (by kernel_rfl);obtain⟨a2,s2,v2,_⟩:=laid_sentinel (g:=5) (ti:=72) (tp:=296) (te:=298) (ts:=9) hr.tail (by kernel_rfl) (by kernel_rfl) Tryz.underlying72 ahn (by kernel_rfl) Tryz.underlying298 (by kernel_rfl) (by kernel_rfl) (by kernel_rfl) (by kernel_rfl) (by kernel_rfl);have rp : VarReads Tryz.prog W "internal/strconv.uint64pow10" (tabData .u64 Lib.pow10Tab) :=by
  rw[<-pow_eq];exact laidMet.reads h (by simp[Rows.bencodeoutDiffersRow])
 have rd : VarReads Tryz.prog W "math/bits.deBruijn64tab" (tabData .u8 (LM.map λn : Nat => (n : Int))) :=by
  rw[<-ajh];exact laidMet.reads h (by simp[Rows.bencodeoutDiffersRow])
 have hp:∃tp fz,W.heap[4]?=some (.cells (Lib.pow10Tab.map λz=>Value.int .u64 z).toArray tp fz):=by
  obtain⟨g,tt,cs,fuel,p,hg,hty,hvar,hd⟩:=rp;obtain rfl := ahh ((show Tryz.prog.globalNamed "internal/strconv.uint64pow10" = some 4 by kernel_rfl).symm.trans hg)
  obtain rfl:=ahh ((show (Tryz.prog.globals[4]?).map (·.type)=some 243 by kernel_rfl).symm.trans hty)
  have hcs:=cells_of_tab Tryz.underlying243 Tryz.underlying136 (by kernel_rfl) (by kernel_rfl) hd;obtain⟨t2,fz,e⟩:=ZY hg hvar;refine⟨t2,fz,?_⟩;rw[e,<-hcs]
 have hdb:∀i,i<64->W.cell? ⟨7,i,none⟩=some (.int .u8 (Nj i)):=by
  obtain⟨g,tt,cs,fuel,p,hg,hty,hvar,hd⟩:=rd;obtain rfl := ahh ((show Tryz.prog.globalNamed "math/bits.deBruijn64tab" = some 7 by kernel_rfl).symm.trans hg)
  obtain rfl:=ahh ((show (Tryz.prog.globals[7]?).map (·.type)=some 288 by kernel_rfl).symm.trans hty)
  have hcs:=cells_of_tab Tryz.underlying288 Tryz.underlying5 (by kernel_rfl) (by kernel_rfl) hd;intro i hi;have h1:=World.var?_cell hg hvar i;rw[h1,<-aiK,hcs,aqW,abt,adg (by show i<LM.length;have:LM.length=64:=rfl;omega)];unfold Nj;rw[List.getD_eq_getElem?_getD,adg (by have:LM.length=64:=rfl;omega)];rfl
 refine⟨t.1,t.2,⟨.iface 296 (.pointer (some a2)),?_,.inr ⟨_,_,rfl⟩⟩,⟨.iface 296 (.pointer (some a)),?_,.inr ⟨_,_,rfl⟩⟩,hp,hdb⟩
 .have:=World.var?_cell (g:=5) (by kernel_rfl) v2 0;simpa using this
 .have:=World.var?_cell (g:=6) (by kernel_rfl) v1 0;simpa using this
def He:Nat->DataW Unit->δ
 |n+1,.lit (.int k z)=>[.int k z]
 |n+1,.agg l=>l.flatMap (He n)
 |_,_=>[]
def ahp:DataW Unit->List UInt8
 |.iface _ (.ptr (.agg [.lit (.string l)]))=>l
 |_=>[]
def setCells (cs:δ):Obj->Obj
 |.cells _ t fr=>.cells cs.toArray t fr
 |o=>o
noncomputable def low (os:Os):Nat:=(World.holding Tryz.prog os ⟨#[],#[],[]⟩).heap.size
noncomputable def Hf (os:Os):World:=
 let w0:=World.holding Tryz.prog os ⟨#[.cells #[.string ⟨(ahp Rows.laid_strconv_ErrSyntax).toArray⟩] 298,.cells #[.string ⟨(ahp Rows.laid_strconv_ErrRange).toArray⟩] 298],#[],[]⟩
 { w0 with heap:=((((((w0.heap.modify 0 (setCells (He 4 Rows.laid_unicode_utf8_first))).modify 1 (setCells (He 4 Rows.laid_unicode_utf8_acceptRanges))).modify 5 (setCells [.iface 296 (.pointer (some ⟨low default,0,none⟩))])).modify 6
   (setCells [.iface 296 (.pointer (some ⟨low default+1,0,none⟩))])).modify 4 (setCells (He 4 Rows.laid_internal_strconv_uint64pow10))).modify 8 (setCells (He 4 Rows.laid_math_bits_deBruijn32tab))).modify 7 (setCells (He 4 Rows.laid_math_bits_deBruijn64tab)) }
set_option maxRecDepth 100000 in
def ZZ (os:Os)(args:ν):laidMet Tryz.prog Rows.bencodeoutDiffersRow.laid ((Hf os).forCall (λ_ _=>0) ⟨#[],args,[]⟩).memory:=
 laidMet_of_run' 8 (by kernel_rfl) (by kernel_rfl)
end Go.Proofs.YthcljaholofonaaGreatDoor
