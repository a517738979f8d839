
import Derived.Test.YtmjkmdhbcmckgaaGreatDoorChk
import Derived.Test.YtmjkmdhbcmckgaaGreatDoorFact
set_option linter.all false
namespace Go.Proofs
open Go Go.RowKit Go.Lib Go.Ago
def tzI (x:Int):Int:=IntKind.u64.wrap (bits BinOp.and IntKind.u64 x (IntKind.u64.wrap (-x)) * 285870213051353865) / 288230376151711744
theorem bits_run (b:Nat)(w:World):(callFunc 131 #[.float .f64 b]).run Tryz.prog w=.ok (.value (.int .u64 b)) w:=by kernel_rfl
theorem from_run (n:Int)(w:World):(callFunc 121 #[.int .u64 n]).run Tryz.prog w=.ok (.value (.float .f64 n.toNat)) w:=by kernel_rfl
theorem tz_zero (w:World):Calls Tryz.prog 156 #[.int .u64 0] w fun e w'=>e=.returned (.int .i64 64)∧w'=w:=by
 go_enter Tryz.func156,Tryz.ntmps156
 go_wp2
 go_ret
 exact⟨rfl,rfl⟩
theorem tz_calls (x:Int)(w:World)(h0:x≠0)(hi:0≤tzI x∧tzI x<64)(hd:∀ i,i<64→w.cell? ⟨6,i,none⟩=some (.int .u8 (debT i))) :
  Calls Tryz.prog 156 #[.int .u64 x] w fun e w'=>e=.returned (.int .i64 (wrap64 (debT (tzI x).toNat)))∧w'=w:=by
 have hc:=hd (tzI x).toNat (by omega)
 have hz:(x == 0)=false:=by simpa using h0
 go_enter Tryz.func156,Tryz.ntmps156
 go_wp2
 go_ret
 exact⟨rfl,rfl⟩
end Go.Proofs
