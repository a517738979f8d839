
import Derived.Test.YtmfkngdglbcngaaGreatDoorChk
import Derived.Test.YtmfkngdglbcngaaGreatDoorFact
namespace Go.Proofs
open Go Go.RowKit Go.Lib Go.Ago
def Qc (x:Int):Int:=IntKind.u64.wrap (bits BinOp.and IntKind.u64 x (IntKind.u64.wrap (-x))*285870213051353865)/288230376151711744
theorem Mf (b:Nat)(w:World):(callFunc 99 #[.float .f64 b]).run Tryz.prog w=.ok (.value (.int .u64 b)) w:=by kernel_rfl
theorem Mg (n:Int)(w:World):(callFunc 89 #[.int .u64 n]).run Tryz.prog w=.ok (.value (.float .f64 n.toNat)) w:=by kernel_rfl
theorem YR (w:World):Calls Tryz.prog 128 #[.int .u64 0] w λe w'=>e=.returned (.int .i64 64)/\w'=w:=by
 go_enter Tryz.func128,Tryz.ntmps128
 go_wp2
 go_ret
 exact⟨rfl,rfl⟩
theorem U0 (x:Int)(w:World)(h0:x≠0)(hi:0<=Qc x/\Qc x<64)(hd:∀i,i<64->w.cell? ⟨6,i,none⟩=some (.int .u8 (Ig i))) :
  Calls Tryz.prog 128 #[.int .u64 x] w λe w'=>e=.returned (.int .i64 (wrap64 (Ig (Qc x).toNat)))/\w'=w:=by
 have hc:=hd (Qc x).toNat (by omega);have hz:(x==0)=false:=by simpa using h0
 go_enter Tryz.func128,Tryz.ntmps128
 go_wp2
 go_ret
 exact⟨rfl,rfl⟩
end Go.Proofs
