/-
  The law (3): more than 1024 rows.
-/
import Derived.Test.YbulkckkFmtLawA
namespace Go.Proofs.YbulkckkFmt.st
open Go.RowKit Go.Joins
set_option linter.unusedVariables false

set_option maxRecDepth 100000 in
theorem law3_big (w : World) (a0 : Option Addr) (N c0 : Nat) (kk : Int) (hbig : 1024 < N) :
    Calls Ybaf.prog 3 #[.slice a0 N c0, .int .u8 kk] w fun e w' => e = .returned (.bool true) ∧ Below w.heap.size w w' := by
  have hbI : (1024 : Int) < (N : Int) := by omega
  go_enter Ybaf.func3, Ybaf.ntmps3
  go_wp2
  go_ret
  exact ⟨rfl, Below.refl _ _⟩

end Go.Proofs.YbulkckkFmt.st
