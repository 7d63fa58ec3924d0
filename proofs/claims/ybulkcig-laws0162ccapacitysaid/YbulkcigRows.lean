/-
  No cell of these rows narrows 'for every input' (looked for: loops, veiled, ifaces, maps, wideKeys, modest, calm, conditions, laid).
  DERIVED. THE GIVEN ROWS OF THIS SEAT. 2 by the template 'for every input the law returns true; each argument reads behind the call as it read before'; 0 by the template 'total and deterministic' (their statements: YbulkcigTotals.lean).
  GIVEN WITH THE SEED: the statements are not yours to turn. If you find one false, say at which input.
  Laid BY PROGRAM, IN A SANDBOX (cutbox-rows.mjs): the forced cells as the released guide's own fill.sh prints them over the translation ac60d8b9d408194e… (all of the seat's roots in one cut). By AI agents, Wed Nov 11 2026. No macro, syntax, notation, axiom, sorry.
-/
import Derived.Test.YbulkcigChecked
import GoSem.Claim
import GoSem.ClaimJoined
import GoSem.ClaimMapViews
import Derived.JoinedTies
import Derived.KernelRfl
namespace Go.Proofs.Ybulkcig
/- THE CELL 'sum', in the pinned program and in every row, IS THE sha256 OF THE DUMP (.gsa) THAT YbulkcigProg.lean LOADS. Nothing in Lean hashes anything: it is a label: what it is worth is what the hold of that sum in a sandbox is worth. -/
noncomputable def Yba.pinned : Pinned := { name := "ybulkcig", sum := "ac60d8b9d408194e274123b1a37e57373e6cac2eb8edeb51b697b7f0eb49500a", checked := Yba.checked }
namespace Rows
def none {H : Type} : Left H := { results := [], args := [] }

/-- 'csvfile.LawS0162CContent': WHATEVER THE INPUT: true; the input reads as it did. -/
def lawS0162CContentSpec : ChangeSpec := { name := "lawS0162CContent", fn := fun _ => fun
  | [d1, d2, d3] => { results := [.lit (.bool true)], args := [d1, d2, d3] }
  | _ => none }
def lawS0162CContentRow : OpenClaim := { program := "ybulkcig", sum := "ac60d8b9d408194e274123b1a37e57373e6cac2eb8edeb51b697b7f0eb49500a", func := "example.com/vestline/vestline/internal/csvfile.LawS0162CContent", spec := "lawS0162CContent", apart := false }
def LawS0162CContentSaid : Prop := lawS0162CContentRow.holds Yba.pinned (OpenSpec.ofChange lawS0162CContentSpec)

/-- ITS FALSE NEIGHBOUR: 'it returns false'. Refute it at one input. -/
def lawS0162CContentWrong : ChangeSpec := { name := "lawS0162CContent", fn := fun _ => fun
  | [d1, d2, d3] => { results := [.lit (.bool false)], args := [d1, d2, d3] }
  | _ => none }
def LawS0162CContentWrongFalsely : Prop := lawS0162CContentRow.holds Yba.pinned (OpenSpec.ofChange lawS0162CContentWrong)

/-- 'csvfile.LawS0162CCapacity': WHATEVER THE INPUT: true; the input reads as it did. -/
def lawS0162CCapacitySpec : ChangeSpec := { name := "lawS0162CCapacity", fn := fun _ => fun
  | [d1, d2, d3] => { results := [.lit (.bool true)], args := [d1, d2, d3] }
  | _ => none }
def lawS0162CCapacityRow : OpenClaim := { program := "ybulkcig", sum := "ac60d8b9d408194e274123b1a37e57373e6cac2eb8edeb51b697b7f0eb49500a", func := "example.com/vestline/vestline/internal/csvfile.LawS0162CCapacity", spec := "lawS0162CCapacity", apart := false }
def LawS0162CCapacitySaid : Prop := lawS0162CCapacityRow.holds Yba.pinned (OpenSpec.ofChange lawS0162CCapacitySpec)

/-- ITS FALSE NEIGHBOUR: 'it returns false'. Refute it at one input. -/
def lawS0162CCapacityWrong : ChangeSpec := { name := "lawS0162CCapacity", fn := fun _ => fun
  | [d1, d2, d3] => { results := [.lit (.bool false)], args := [d1, d2, d3] }
  | _ => none }
def LawS0162CCapacityWrongFalsely : Prop := lawS0162CCapacityRow.holds Yba.pinned (OpenSpec.ofChange lawS0162CCapacityWrong)

end Rows
end Go.Proofs.Ybulkcig
