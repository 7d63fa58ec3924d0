/-
  Duration.Millis (14): some text, made by fmt.
-/
import Derived.Test.YbulkckkFmtRow
import Derived.Lib.SmallJoins
import Derived.Stop.CallBack
import Derived.Stop.IfaceNil
import GoSem.ClaimData
namespace Go.Proofs.YbulkckkFmt
open Go.RowKit Go.Extern.Stop Go.Stop Go.Extern Go.Joins
set_option linter.unusedVariables false
set_option linter.unusedSimpArgs false

@[go_sem] theorem Ybaf.call18 (args : Array Value) (w : World) : (callFunc 18 args).run Ybaf.prog w = ((FmtStop.sprintf #[9, 99] #[9] args).run Ybaf.prog w).andThen fun v w' => .ok (.value v) w' :=
  run_callFunc_extern Ybaf.func18 (by kernel_rfl) (by kernel_rfl) (by kernel_rfl) (by kernel_rfl) args w
@[go_sem] theorem Ybaf.guard (name : String) (w : World) : (FmtStop.guard name).run Ybaf.prog w = .ok () w := by kernel_rfl
@[go_sem] theorem Ybaf.fmtA : FmtStop.printed? ⟨#[37, 115, 37, 100, 46, 37, 48, 51, 100]⟩ 3 = some [(0, 115, false), (1, 100, false), (2, 100, false)] := by kernel_rfl
@[go_sem] theorem Ybaf.fmtAr (w : World) : (FmtDoors.printed ⟨#[37, 115, 37, 100, 46, 37, 48, 51, 100]⟩ 3).run Ybaf.prog w = .ok [(0, 115, false), (1, 100, false), (2, 100, false)] w := by kernel_rfl
def Ybaf.shape27 : List UInt8 := [5, 17, 0, 0, 0, 0, 0, 0, 0, 116, 105, 109, 101, 108, 105, 110, 101, 46, 68, 117, 114, 97, 116, 105, 111, 110]
@[go_sem] theorem Ybaf.op27_100 (name : String) (x : Int) (w : World) : (FmtStop.operand name false 100 false (.iface 27 (.int .i64 x))).run Ybaf.prog w = .ok (Ybaf.shape27, Go.Extern.Stop.digits 8 (x % 2 ^ 64).toNat) w := by kernel_rfl
def Ybaf.shape9 : List UInt8 := [12, 6, 0, 0, 0, 0, 0, 0, 0, 115, 116, 114, 105, 110, 103]
@[go_sem] theorem Ybaf.op9_115 (name : String) (x : ByteArray) (w : World) : (FmtStop.operand name false 115 false (.iface 9 (.string x))).run Ybaf.prog w = .ok (Ybaf.shape9, FmtStop.pack x.data.toList) w := by kernel_rfl

namespace st
set_option maxHeartbeats 1000000 in
theorem millis14 (F : Interp) (x : Int) (w : World) (hF : F.answers w.tape) :
    Calls Ybaf.prog 14 #[.int .i64 x] w fun e w' => (∃ t : ByteArray, e = .returned (.string t)) ∧ Below w.heap.size w w' := by
  have hF' := answers_open hF
  by_cases h : x < 0
  · go_enter Ybaf.func14, Ybaf.ntmps14
    go_wp2
    go_ret
    exact ⟨⟨_, rfl⟩, ((Below.refl _ _).alloc (Nat.le_refl _) _).drew⟩
  · have h' : 0 ≤ x := by omega
    go_enter Ybaf.func14, Ybaf.ntmps14
    go_wp2
    go_ret
    exact ⟨⟨_, rfl⟩, ((Below.refl _ _).alloc (Nat.le_refl _) _).drew⟩
end st
end Go.Proofs.YbulkckkFmt
