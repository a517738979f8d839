
import Derived.Test.YtpojbnjkkkiccaaGreatDoorChk
import Derived.Test.YtpojbnjkkkiccaaGreatDoorFact
set_option linter.all false
namespace Go.Proofs
open Go Go.RowKit Go.Lib Go.Ago
def Uh (x:Int):Int:=IntKind.u64.wrap (bits BinOp.and IntKind.u64 x (IntKind.u64.wrap (-x))*285870213051353865)/288230376151711744
theorem PZ (b:Nat)(w:World):(callFunc 134 #[.float .f64 b]).run Tryz.prog w=.ok (.value (.int .u64 b)) w:=by kernel_rfl
theorem P0 (n:Int)(w:World):(callFunc 125 #[.int .u64 n]).run Tryz.prog w=.ok (.value (.float .f64 n.toNat)) w:=by kernel_rfl
def adN (w:World):Calls Tryz.prog 165 #[.int .u64 0] w λe w'=>e=.returned (.int .i64 64)/\w'=w:=by
 go_enter Tryz.func165,Tryz.ntmps165
 go_wp2
 go_ret
 exact⟨rfl,rfl⟩
def Zt (x:Int)(w:World)(h0:x≠0)(hi:0<=Uh x/\Uh x<64)(hd:∀i,i<64->w.cell? ⟨6,i,none⟩=some (.int .u8 (M5 i))) :
  Calls Tryz.prog 165 #[.int .u64 x] w λe w'=>e=.returned (.int .i64 (wrap64 (M5 (Uh x).toNat)))/\w'=w:=by
 have hc:=hd (Uh x).toNat (by omega);have hz:(x==0)=false:=by simpa using h0
 go_enter Tryz.func165,Tryz.ntmps165
 go_wp2
 go_ret
 exact⟨rfl,rfl⟩
end Go.Proofs
