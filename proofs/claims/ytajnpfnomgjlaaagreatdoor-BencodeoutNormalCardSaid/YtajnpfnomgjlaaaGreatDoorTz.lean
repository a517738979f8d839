
import Derived.Test.YtajnpfnomgjlaaaGreatDoorChk
import Derived.Test.YtajnpfnomgjlaaaGreatDoorFact
set_option linter.all false
namespace Go.Proofs
open Go Go.RowKit Go.Lib Go.Ago
def QQ (x:Int):Int:=IntKind.u64.wrap (bits BinOp.and IntKind.u64 x (IntKind.u64.wrap (-x))*285870213051353865)/288230376151711744
theorem Nj b w:(callFunc 152 #[.float .f64 b]).run Tryz.prog w=.ok (.value (.int .u64 b)) w:=by kernel_rfl
theorem Nk n w:(callFunc 143 #[.int .u64 n]).run Tryz.prog w=.ok (.value (.float .f64 n.toNat)) w:=by kernel_rfl
theorem aaC w:Calls Tryz.prog 178 #[.int .u64 0] w λe w'=>e=.returned (.int .i64 64)/\w'=w:=by
 go_enter Tryz.func178,Tryz.ntmps178
 go_wp2
 go_ret
 exact⟨rfl,rfl⟩
theorem V5 x w (h0:x≠0)(hi:0<=QQ x/\QQ x<64)(hd:∀i,i<64->w.cell? ⟨7,i,none⟩=some (.int .u8 (IW i))) :
  Calls Tryz.prog 178 #[.int .u64 x] w λe w'=>e=.returned (.int .i64 (wrap64 (IW (QQ x).toNat)))/\w'=w:=by
 have hc:=hd (QQ x).toNat (by omega);have hz:(x==0)=false:=by simpa using h0
 go_enter Tryz.func178,Tryz.ntmps178
 go_wp2
 go_ret
 exact⟨rfl,rfl⟩
end Go.Proofs
