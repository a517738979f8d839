
import Derived.Test.YtcdofopdlaebaaaGreatDoorAgoI
import Derived.Test.YtcdofopdlaebaaaGreatDoorProg
namespace Go.Sh
open Go Go.Ago
abbrev ak (b:Nat):Addr:=⟨b,0,none⟩
abbrev li:eF:=.int .i64
abbrev aB:Ty:=.one (.int .i64)
abbrev oe:Ty:=.one .str
abbrev jz:Ty:=.one .bool
abbrev cJ:Ty:=.one .sl
abbrev aK:Ty:=.one .ak
abbrev tA:Ty:=.one .ptr
abbrev rW:Ty:=.one .raw
abbrev tyM:Ty:=.one .mp
abbrev vi (n:Int):Value:=.int .i64 n
abbrev aE (s:Sl):Value:=.slice s.a s.len s.cap
abbrev mX:Sl:=⟨none,0,0⟩
abbrev aU:Value:=.slice none 0 0
abbrev au:TypeId:=3
abbrev uW:TypeId:=4
abbrev gC:TypeId:=5
abbrev dT:TypeId:=9
abbrev aj:TypeId:=24
abbrev cW:TypeId:=25
abbrev aR:TypeId:=36
abbrev aw:TypeId:=38
abbrev MU:TypeId:=0
abbrev aC:TypeId:=42
abbrev yx:TypeId:=43
abbrev vX:TypeId:=53
abbrev ns:TypeId:=62
abbrev eC:TypeId:=63
abbrev cz:TypeId:=65
abbrev aH:TypeId:=78
abbrev bZ:TypeId:=82
abbrev bT:TypeId:=92
abbrev bI:TypeId:=97
abbrev oC:TypeId:=99
abbrev eO:TypeId:=100
abbrev tN:TypeId:=128
abbrev Q5:TypeId:=131
abbrev dj:TypeId:=135
abbrev fq:TypeId:=142
abbrev GY:TypeId:=163
abbrev qK:TypeId:=171
abbrev ET:TypeId:=180
abbrev zI:TypeId:=202
abbrev uE:TypeId:=215
abbrev nN:FuncId:=47
abbrev hC:FuncId:=75
abbrev iQ:FuncId:=195
abbrev nO:FuncId:=25
abbrev jY:FuncId:=33
abbrev iR:FuncId:=34
abbrev pN:FuncId:=107
abbrev mY:FuncId:=19
abbrev nP:FuncId:=69
abbrev dB:FuncId:=70
def dr0(i:Nat):Option (List (Nat×List Nat)):=none
end Go.Sh
