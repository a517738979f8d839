
import Derived.Test.YtcdofopdlaebaaaGreatDoorChk
import Derived.Test.YtcdofopdlaebaaaGreatDoorFact
namespace Go.Proofs
open Go Go.RowKit Go.Lib Go.Ago
def Pf (x:Int):Int:=IntKind.u64.wrap (bits BinOp.and IntKind.u64 x (IntKind.u64.wrap (-x))*285870213051353865)/288230376151711744
theorem Lk (b:Nat)(w:World):(callFunc 99 #[.float .f64 b]).run Tryz.prog w=.ok (.value (.int .u64 b)) w:=by kernel_rfl
theorem Ll (n:Int)(w:World):(callFunc 89 #[.int .u64 n]).run Tryz.prog w=.ok (.value (.float .f64 n.toNat)) w:=by kernel_rfl
theorem X1 (w:World):Calls Tryz.prog 128 #[.int .u64 0] w λe w'=>e=.returned (.int .i64 64)/\w'=w:=by
 go_enter Tryz.func128,Tryz.ntmps128
 go_wp2
 go_ret
 exact⟨rfl,rfl⟩
theorem Uf (x:Int)(w:World)(h0:x≠0)(hi:0<=Pf x/\Pf x<64)(hd:∀i,i<64->w.cell? ⟨6,i,none⟩=some (.int .u8 (Hl i))) :
  Calls Tryz.prog 128 #[.int .u64 x] w λe w'=>e=.returned (.int .i64 (wrap64 (Hl (Pf x).toNat)))/\w'=w:=by
 have hc:=hd (Pf x).toNat (by omega);have hz:(x==0)=false:=by simpa using h0
 go_enter Tryz.func128,Tryz.ntmps128
 go_wp2
 go_ret
 exact⟨rfl,rfl⟩
end Go.Proofs
