/-
  No cell of these rows narrows 'for every input' (looked for: loops, veiled, ifaces, maps, wideKeys, modest, calm, conditions, laid).
  DERIVED. THE GIVEN ROWS OF THIS SEAT. 1 by the template 'for every input the law returns true; each argument reads behind the call as it read before'; 0 by the template 'total and deterministic' (their statements: YbulkcjwTotals.lean).
  GIVEN WITH THE SEED: the statements are not yours to turn. If you find one false, say at which input.
  Laid BY PROGRAM, IN A SANDBOX (cutbox-rows.mjs): the forced cells as the released guide's own fill.sh prints them over the translation 21ead58bc3904ed8… (all of the seat's roots in one cut). By AI agents, Wed Nov 11 2026. No macro, syntax, notation, axiom, sorry.
-/
import Derived.Test.YbulkcjwChecked
import GoSem.Claim
import GoSem.ClaimJoined
import GoSem.ClaimMapViews
import Derived.JoinedTies
import Derived.KernelRfl
namespace Go.Proofs.Ybulkcjw
/- THE CELL 'sum', in the pinned program and in every row, IS THE sha256 OF THE DUMP (.gsa) THAT YbulkcjwProg.lean LOADS. Nothing in Lean hashes anything: it is a label: what it is worth is what the hold of that sum in a sandbox is worth. -/
noncomputable def Yba.pinned : Pinned := { name := "ybulkcjw", sum := "21ead58bc3904ed8b102b3ece8f87b06b3b69b0daa14f4fe41d044d7cc4386a7", checked := Yba.checked }
namespace Rows
def none {H : Type} : Left H := { results := [], args := [] }

/-- 'sim.LawS0165BAgreeOnNone': WHATEVER THE INPUT: true; the input reads as it did. -/
def lawS0165BAgreeOnNoneSpec : ChangeSpec := { name := "lawS0165BAgreeOnNone", fn := fun _ => fun
  | [d1, d2, d3, d4] => { results := [.lit (.bool true)], args := [d1, d2, d3, d4] }
  | _ => none }
def lawS0165BAgreeOnNoneRow : OpenClaim := { program := "ybulkcjw", sum := "21ead58bc3904ed8b102b3ece8f87b06b3b69b0daa14f4fe41d044d7cc4386a7", func := "example.com/quorate/quorate/sim.LawS0165BAgreeOnNone", spec := "lawS0165BAgreeOnNone", apart := false }
def LawS0165BAgreeOnNoneSaid : Prop := lawS0165BAgreeOnNoneRow.holds Yba.pinned (OpenSpec.ofChange lawS0165BAgreeOnNoneSpec)

/-- ITS FALSE NEIGHBOUR: 'it returns false'. Refute it at one input. -/
def lawS0165BAgreeOnNoneWrong : ChangeSpec := { name := "lawS0165BAgreeOnNone", fn := fun _ => fun
  | [d1, d2, d3, d4] => { results := [.lit (.bool false)], args := [d1, d2, d3, d4] }
  | _ => none }
def LawS0165BAgreeOnNoneWrongFalsely : Prop := lawS0165BAgreeOnNoneRow.holds Yba.pinned (OpenSpec.ofChange lawS0165BAgreeOnNoneWrong)

end Rows
end Go.Proofs.Ybulkcjw
