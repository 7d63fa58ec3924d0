/-
  THE CLOSED FACTS FOR THE WALK OVER fmt.Sprintf AT THIS DUMP (after the guide's LabelFmt): function 9 is the stop; the format is '%s... (%d bytes)'.
-/
import Derived.Test.YbulkcigFmtRows
import Derived.WalkKit
import Derived.WalkSpells
import Derived.Stop.CallBack
import Derived.Stop.IfaceNil
import GoSem.ClaimData
namespace Go.Proofs.YbulkcigFmt
open Go.Extern.Stop Go.Stop Go.Extern

@[go_sem] theorem Ybaf.call9 (args : Array Value) (w : World) : (callFunc 9 args).run Ybaf.prog w = ((FmtStop.sprintf #[9, 47] #[9] args).run Ybaf.prog w).andThen fun v w' => .ok (.value v) w' :=
  run_callFunc_extern Ybaf.func9 (by kernel_rfl) (by kernel_rfl) (by kernel_rfl) (by kernel_rfl) args w

@[go_sem] theorem Ybaf.guard (name : String) (w : World) : (FmtStop.guard name).run Ybaf.prog w = .ok () w := by kernel_rfl

@[go_sem] theorem Ybaf.fmtA : FmtStop.printed? ⟨#[37, 115, 46, 46, 46, 32, 40, 37, 100, 32, 98, 121, 116, 101, 115, 41]⟩ 2 = some [(0, 115, false), (1, 100, false)] := by kernel_rfl
@[go_sem] theorem Ybaf.fmtAr (w : World) : (FmtDoors.printed ⟨#[37, 115, 46, 46, 46, 32, 40, 37, 100, 32, 98, 121, 116, 101, 115, 41]⟩ 2).run Ybaf.prog w = .ok [(0, 115, false), (1, 100, false)] w := by kernel_rfl

def Ybaf.shape3 : List UInt8 := [5, 3, 0, 0, 0, 0, 0, 0, 0, 105, 110, 116]
@[go_sem] theorem Ybaf.op3_100 (name : String) (x : Int) (w : World) : (FmtStop.operand name false 100 false (.iface 3 (.int .i64 x))).run Ybaf.prog w = .ok (Ybaf.shape3, Go.Extern.Stop.digits 8 (x % 2 ^ 64).toNat) w := by kernel_rfl
def Ybaf.shape9 : List UInt8 := [12, 6, 0, 0, 0, 0, 0, 0, 0, 115, 116, 114, 105, 110, 103]
@[go_sem] theorem Ybaf.op9_115 (name : String) (x : ByteArray) (w : World) : (FmtStop.operand name false 115 false (.iface 9 (.string x))).run Ybaf.prog w = .ok (Ybaf.shape9, FmtStop.pack x.data.toList) w := by kernel_rfl

end Go.Proofs.YbulkcigFmt
