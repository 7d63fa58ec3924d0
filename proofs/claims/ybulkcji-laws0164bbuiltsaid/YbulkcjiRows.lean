/-
  No cell of these rows narrows 'for every input' (looked for: loops, veiled, ifaces, maps, wideKeys, modest, calm, conditions, laid).
  DERIVED. THE GIVEN ROWS OF THIS SEAT. 2 by the template 'for every input the law returns true; each argument reads behind the call as it read before'; 0 by the template 'total and deterministic' (their statements: YbulkcjiTotals.lean).
  GIVEN WITH THE SEED: the statements are not yours to turn. If you find one false, say at which input.
  Laid BY PROGRAM, IN A SANDBOX (cutbox-rows.mjs): the forced cells as the released guide's own fill.sh prints them over the translation 4afb5cee3a59b371… (all of the seat's roots in one cut). By AI agents, Wed Nov 11 2026. No macro, syntax, notation, axiom, sorry.
-/
import Derived.Test.YbulkcjiChecked
import GoSem.Claim
import GoSem.ClaimJoined
import GoSem.ClaimMapViews
import Derived.JoinedTies
import Derived.KernelRfl
namespace Go.Proofs.Ybulkcji
/- THE CELL 'sum', in the pinned program and in every row, IS THE sha256 OF THE DUMP (.gsa) THAT YbulkcjiProg.lean LOADS. Nothing in Lean hashes anything: it is a label: what it is worth is what the hold of that sum in a sandbox is worth. -/
noncomputable def Yba.pinned : Pinned := { name := "ybulkcji", sum := "4afb5cee3a59b3717f029a107c491c37f0d847d8a8eeaa10d52eae7639f51e4e", checked := Yba.checked }
namespace Rows
def none {H : Type} : Left H := { results := [], args := [] }

/-- 'libtzabbr.LawS0164BModel': WHATEVER THE INPUT: true; the input reads as it did. -/
def lawS0164BModelSpec : ChangeSpec := { name := "lawS0164BModel", fn := fun _ => fun
  | [d] => { results := [.lit (.bool true)], args := [d] }
  | _ => none }
def lawS0164BModelRow : OpenClaim := { program := "ybulkcji", sum := "4afb5cee3a59b3717f029a107c491c37f0d847d8a8eeaa10d52eae7639f51e4e", func := "example.com/libtzabbr/libtzabbr.LawS0164BModel", spec := "lawS0164BModel", apart := false }
def LawS0164BModelSaid : Prop := lawS0164BModelRow.holds Yba.pinned (OpenSpec.ofChange lawS0164BModelSpec)

/-- ITS FALSE NEIGHBOUR: 'it returns false'. Refute it at one input. -/
def lawS0164BModelWrong : ChangeSpec := { name := "lawS0164BModel", fn := fun _ => fun
  | [d] => { results := [.lit (.bool false)], args := [d] }
  | _ => none }
def LawS0164BModelWrongFalsely : Prop := lawS0164BModelRow.holds Yba.pinned (OpenSpec.ofChange lawS0164BModelWrong)

/-- 'libtzabbr.LawS0164BBuilt': WHATEVER THE INPUT: true; the input reads as it did. -/
def lawS0164BBuiltSpec : ChangeSpec := { name := "lawS0164BBuilt", fn := fun _ => fun
  | [d] => { results := [.lit (.bool true)], args := [d] }
  | _ => none }
def lawS0164BBuiltRow : OpenClaim := { program := "ybulkcji", sum := "4afb5cee3a59b3717f029a107c491c37f0d847d8a8eeaa10d52eae7639f51e4e", func := "example.com/libtzabbr/libtzabbr.LawS0164BBuilt", spec := "lawS0164BBuilt", apart := false }
def LawS0164BBuiltSaid : Prop := lawS0164BBuiltRow.holds Yba.pinned (OpenSpec.ofChange lawS0164BBuiltSpec)

/-- ITS FALSE NEIGHBOUR: 'it returns false'. Refute it at one input. -/
def lawS0164BBuiltWrong : ChangeSpec := { name := "lawS0164BBuilt", fn := fun _ => fun
  | [d] => { results := [.lit (.bool false)], args := [d] }
  | _ => none }
def LawS0164BBuiltWrongFalsely : Prop := lawS0164BBuiltRow.holds Yba.pinned (OpenSpec.ofChange lawS0164BBuiltWrong)

end Rows
end Go.Proofs.Ybulkcji
