
import Derived.Test.YthnfbcloepfooaaGreatDoorAgoI
import Derived.Test.YthnfbcloepfooaaGreatDoorProg
set_option linter.all false
namespace Go.Sh
open Go Go.Ago
abbrev aw (b:Nat):Addr:=⟨b,0,none⟩
abbrev li:eh:=.int .i64
abbrev aB:Ty:=.one (.int .i64)
abbrev yR:Ty:=.one .str
abbrev kP:Ty:=.one .bool
abbrev cH:Ty:=.one .sl
abbrev aV:Ty:=.one .aw
abbrev rW:Ty:=.one .ptr
abbrev rX:Ty:=.one .raw
abbrev Xi:Ty:=.one .mp
abbrev vi (n:Int):ξ:=.int .i64 n
abbrev aS (s:Sl):ξ:=.slice s.a s.len s.cap
abbrev jb:Sl:=⟨none,0,0⟩
abbrev aZ:ξ:=.slice none 0 0
abbrev ay:κ:=3
abbrev yp:κ:=4
abbrev uf:κ:=5
abbrev aj:κ:=25
abbrev lr:κ:=29
abbrev re:κ:=41
abbrev bu:κ:=44
abbrev fC:κ:=48
abbrev cw:κ:=51
abbrev nJ:κ:=55
abbrev zl:κ:=59
abbrev gz:κ:=61
abbrev pC:κ:=62
abbrev gC:κ:=65
abbrev aH:κ:=67
abbrev rI:κ:=74
abbrev wo:κ:=80
abbrev DS:κ:=101
abbrev A2:κ:=102
abbrev cd:κ:=105
abbrev aM:κ:=122
abbrev DT:κ:=127
abbrev Ad:κ:=129
abbrev ug:κ:=166
abbrev xW:κ:=168
abbrev zm:κ:=169
abbrev vK:κ:=200
abbrev iw:FuncId:=42
abbrev nK:FuncId:=170
abbrev jA:FuncId:=76
abbrev iz:FuncId:=77
abbrev lH:FuncId:=52
abbrev lY:FuncId:=35
abbrev tJ:FuncId:=78
abbrev nh:FuncId:=82
abbrev lZ:FuncId:=58
def dr0(i:Nat):Option (List (Nat×η)):=none
abbrev υ2 {A0 A1 R:Type}(f:A0->A1->R)(x:A0×A1):R:=f x.1 x.2
abbrev υ3 {A0 A1 A2 R:Type}(f:A0->A1->A2->R)(x:A0×A1×A2):R:=f x.1 x.2.1 x.2.2
abbrev υ4 {A0 A1 A2 A3 R:Type}(f:A0->A1->A2->A3->R)(x:A0×A1×A2×A3):R:=f x.1 x.2.1 x.2.2.1 x.2.2.2
abbrev υ5 {A0 A1 A2 A3 A4 R:Type}(f:A0->A1->A2->A3->A4->R)(x:A0×A1×A2×A3×A4):R:=f x.1 x.2.1 x.2.2.1 x.2.2.2.1 x.2.2.2.2
abbrev υ6 {A0 A1 A2 A3 A4 A5 R:Type}(f:A0->A1->A2->A3->A4->A5->R)(x:A0×A1×A2×A3×A4×A5):R:=f x.1 x.2.1 x.2.2.1 x.2.2.2.1 x.2.2.2.2.1 x.2.2.2.2.2
abbrev υ7 {A0 A1 A2 A3 A4 A5 A6 R:Type}(f:A0->A1->A2->A3->A4->A5->A6->R)(x:A0×A1×A2×A3×A4×A5×A6):R:=f x.1 x.2.1 x.2.2.1 x.2.2.2.1 x.2.2.2.2.1 x.2.2.2.2.2.1 x.2.2.2.2.2.2
abbrev υ8 {A0 A1 A2 A3 A4 A5 A6 A7 R:Type}(f:A0->A1->A2->A3->A4->A5->A6->A7->R)(x:A0×A1×A2×A3×A4×A5×A6×A7):R:=f x.1 x.2.1 x.2.2.1 x.2.2.2.1 x.2.2.2.2.1 x.2.2.2.2.2.1 x.2.2.2.2.2.2.1 x.2.2.2.2.2.2.2
abbrev υ9 {A0 A1 A2 A3 A4 A5 A6 A7 A8 R:Type}(f:A0->A1->A2->A3->A4->A5->A6->A7->A8->R)(x:A0×A1×A2×A3×A4×A5×A6×A7×A8):R:=f x.1 x.2.1 x.2.2.1 x.2.2.2.1 x.2.2.2.2.1 x.2.2.2.2.2.1 x.2.2.2.2.2.2.1 x.2.2.2.2.2.2.2.1 x.2.2.2.2.2.2.2.2
abbrev υ10 {A0 A1 A2 A3 A4 A5 A6 A7 A8 A9 R:Type}(f:A0->A1->A2->A3->A4->A5->A6->A7->A8->A9->R)(x:A0×A1×A2×A3×A4×A5×A6×A7×A8×A9):R:=f x.1 x.2.1 x.2.2.1 x.2.2.2.1 x.2.2.2.2.1 x.2.2.2.2.2.1 x.2.2.2.2.2.2.1 x.2.2.2.2.2.2.2.1 x.2.2.2.2.2.2.2.2.1 x.2.2.2.2.2.2.2.2.2
abbrev υ11 {A0 A1 A2 A3 A4 A5 A6 A7 A8 A9 A10 R:Type}(f:A0->A1->A2->A3->A4->A5->A6->A7->A8->A9->A10->R)(x:A0×A1×A2×A3×A4×A5×A6×A7×A8×A9×A10):R:=f x.1 x.2.1 x.2.2.1 x.2.2.2.1 x.2.2.2.2.1 x.2.2.2.2.2.1 x.2.2.2.2.2.2.1 x.2.2.2.2.2.2.2.1 x.2.2.2.2.2.2.2.2.1 x.2.2.2.2.2.2.2.2.2.1 x.2.2.2.2.2.2.2.2.2.2
abbrev υ12 {A0 A1 A2 A3 A4 A5 A6 A7 A8 A9 A10 A11 R:Type}(f:A0->A1->A2->A3->A4->A5->A6->A7->A8->A9->A10->A11->R)(x:A0×A1×A2×A3×A4×A5×A6×A7×A8×A9×A10×A11):R:=f x.1 x.2.1 x.2.2.1 x.2.2.2.1 x.2.2.2.2.1 x.2.2.2.2.2.1 x.2.2.2.2.2.2.1 x.2.2.2.2.2.2.2.1 x.2.2.2.2.2.2.2.2.1 x.2.2.2.2.2.2.2.2.2.1 x.2.2.2.2.2.2.2.2.2.2.1 x.2.2.2.2.2.2.2.2.2.2.2
abbrev υ13 {A0 A1 A2 A3 A4 A5 A6 A7 A8 A9 A10 A11 A12 R:Type}(f:A0->A1->A2->A3->A4->A5->A6->A7->A8->A9->A10->A11->A12->R)(x:A0×A1×A2×A3×A4×A5×A6×A7×A8×A9×A10×A11×A12):R:=f x.1 x.2.1 x.2.2.1 x.2.2.2.1 x.2.2.2.2.1 x.2.2.2.2.2.1 x.2.2.2.2.2.2.1 x.2.2.2.2.2.2.2.1 x.2.2.2.2.2.2.2.2.1 x.2.2.2.2.2.2.2.2.2.1 x.2.2.2.2.2.2.2.2.2.2.1 x.2.2.2.2.2.2.2.2.2.2.2.1 x.2.2.2.2.2.2.2.2.2.2.2.2
abbrev υ15 {A0 A1 A2 A3 A4 A5 A6 A7 A8 A9 A10 A11 A12 A13 A14 R:Type}(f:A0->A1->A2->A3->A4->A5->A6->A7->A8->A9->A10->A11->A12->A13->A14->R)(x:A0×A1×A2×A3×A4×A5×A6×A7×A8×A9×A10×A11×A12×A13×A14):R:=f x.1 x.2.1 x.2.2.1 x.2.2.2.1 x.2.2.2.2.1 x.2.2.2.2.2.1 x.2.2.2.2.2.2.1 x.2.2.2.2.2.2.2.1 x.2.2.2.2.2.2.2.2.1 x.2.2.2.2.2.2.2.2.2.1 x.2.2.2.2.2.2.2.2.2.2.1 x.2.2.2.2.2.2.2.2.2.2.2.1 x.2.2.2.2.2.2.2.2.2.2.2.2.1 x.2.2.2.2.2.2.2.2.2.2.2.2.2.1 x.2.2.2.2.2.2.2.2.2.2.2.2.2.2
abbrev υ18 {A0 A1 A2 A3 A4 A5 A6 A7 A8 A9 A10 A11 A12 A13 A14 A15 A16 A17 R:Type}(f:A0->A1->A2->A3->A4->A5->A6->A7->A8->A9->A10->A11->A12->A13->A14->A15->A16->A17->R)(x:A0×A1×A2×A3×A4×A5×A6×A7×A8×A9×A10×A11×A12×A13×A14×A15×A16×A17):R:=f x.1 x.2.1 x.2.2.1 x.2.2.2.1 x.2.2.2.2.1 x.2.2.2.2.2.1 x.2.2.2.2.2.2.1 x.2.2.2.2.2.2.2.1 x.2.2.2.2.2.2.2.2.1 x.2.2.2.2.2.2.2.2.2.1 x.2.2.2.2.2.2.2.2.2.2.1 x.2.2.2.2.2.2.2.2.2.2.2.1 x.2.2.2.2.2.2.2.2.2.2.2.2.1 x.2.2.2.2.2.2.2.2.2.2.2.2.2.1 x.2.2.2.2.2.2.2.2.2.2.2.2.2.2.1 x.2.2.2.2.2.2.2.2.2.2.2.2.2.2.2.1 x.2.2.2.2.2.2.2.2.2.2.2.2.2.2.2.2.1 x.2.2.2.2.2.2.2.2.2.2.2.2.2.2.2.2.2
def Ω (l:η):List (Nat×η):=l.map λi=>(i,[])
def Κ (i k:Nat)(l:List (Nat×η))(r:Option (List (Nat×η))):=cond (Nat.beq i k) (some l) r
end Go.Sh
