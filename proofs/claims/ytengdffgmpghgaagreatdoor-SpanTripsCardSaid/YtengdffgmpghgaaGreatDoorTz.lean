
import Derived.Test.YtengdffgmpghgaaGreatDoorChk
import Derived.Test.YtengdffgmpghgaaGreatDoorFact
namespace Go.Proofs
open Go Go.RowKit Go.Lib Go.Ago
def RP (x:Int):Int:=IntKind.u64.wrap (bits BinOp.and IntKind.u64 x (IntKind.u64.wrap (-x))*285870213051353865)/288230376151711744
theorem NK (b:Nat)(w:World):(callFunc 134 #[.float .f64 b]).run Tryz.prog w=.ok (.value (.int .u64 b)) w:=by kernel_rfl
theorem NL (n:Int)(w:World):(callFunc 125 #[.int .u64 n]).run Tryz.prog w=.ok (.value (.float .f64 n.toNat)) w:=by kernel_rfl
theorem abb (w:World):Calls Tryz.prog 164 #[.int .u64 0] w λe w'=>e=.returned (.int .i64 64)/\w'=w:=by
 go_enter Tryz.func164,Tryz.ntmps164
 go_wp2
 go_ret
 exact⟨rfl,rfl⟩
theorem W7 (x:Int)(w:World)(h0:x≠0)(hi:0<=RP x/\RP x<64)(hd:∀i,i<64->w.cell? ⟨6,i,none⟩=some (.int .u8 (Jg i))) :
  Calls Tryz.prog 164 #[.int .u64 x] w λe w'=>e=.returned (.int .i64 (wrap64 (Jg (RP x).toNat)))/\w'=w:=by
 have hc:=hd (RP x).toNat (by omega);have hz:(x==0)=false:=by simpa using h0
 go_enter Tryz.func164,Tryz.ntmps164
 go_wp2
 go_ret
 exact⟨rfl,rfl⟩
end Go.Proofs
