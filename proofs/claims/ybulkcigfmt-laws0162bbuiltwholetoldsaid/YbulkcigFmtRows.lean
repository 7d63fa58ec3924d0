/-
  No cell of these rows narrows 'for every input' (looked for: loops, veiled, ifaces, maps, wideKeys, modest, calm, conditions, laid).
  DERIVED. THE GIVEN ROWS OF THIS SEAT. 2 by the template 'for every input the law returns true; each argument reads behind the call as it read before'; 0 by the template 'total and deterministic' (their statements: YbulkcigFmtTotals.lean).
  GIVEN WITH THE SEED: the statements are not yours to turn. If you find one false, say at which input.
  Laid BY PROGRAM, IN A SANDBOX (cutbox-rows.mjs): the forced cells as the released guide's own fill.sh prints them over the translation 90081bc2de374ede… (all of the seat's roots in one cut). By AI agents, Wed Nov 11 2026. No macro, syntax, notation, axiom, sorry.
-/
import Derived.Test.YbulkcigFmtChecked
import GoSem.Claim
import GoSem.ClaimJoined
import GoSem.ClaimMapViews
import Derived.JoinedTies
import Derived.KernelRfl
namespace Go.Proofs.YbulkcigFmt
/- THE CELL 'sum', in the pinned program and in every row, IS THE sha256 OF THE DUMP (.gsa) THAT YbulkcigFmtProg.lean LOADS. Nothing in Lean hashes anything: it is a label: what it is worth is what the hold of that sum in a sandbox is worth. -/
noncomputable def Ybaf.pinned : Pinned := { name := "ybulkcigfmt", sum := "90081bc2de374edebffc3f5ebae1249fa8c07419c32ecd753041e8ebd30545f3", checked := Ybaf.checked }
namespace Rows
def none {H : Type} : Left H := { results := [], args := [] }

/-- 'input.LawS0162BShortWhole': WHATEVER THE INPUT: true; the input reads as it did. -/
def lawS0162BShortWholeSpec : ChangeSpec := { name := "lawS0162BShortWhole", fn := fun _ => fun
  | [d] => { results := [.lit (.bool true)], args := [d] }
  | _ => none }
def lawS0162BShortWholeRow : OpenClaim := { program := "ybulkcigfmt", sum := "90081bc2de374edebffc3f5ebae1249fa8c07419c32ecd753041e8ebd30545f3", func := "example.com/vestline/vestline/internal/input.LawS0162BShortWhole", spec := "lawS0162BShortWhole", stops := ["fmt.Sprintf"], inPlace := ["fmt.Sprintf"], apart := false }
/-- NO THEOREM (fmt's text is open here; it may be false): for the released tool's asking of the row's closed facts alone. THE STATEMENT IS 'LawS0162BShortWholeToldSaid' (YbulkcigFmtCards.lean). -/
def LawS0162BShortWholeFormAsk : Prop := lawS0162BShortWholeRow.holds Ybaf.pinned (OpenSpec.ofChange lawS0162BShortWholeSpec)

/-- ITS FALSE NEIGHBOUR: 'it returns false'. Refute it at one input. -/
def lawS0162BShortWholeWrong : ChangeSpec := { name := "lawS0162BShortWhole", fn := fun _ => fun
  | [d] => { results := [.lit (.bool false)], args := [d] }
  | _ => none }
def LawS0162BShortWholeWrongFormAsk : Prop := lawS0162BShortWholeRow.holds Ybaf.pinned (OpenSpec.ofChange lawS0162BShortWholeWrong)

/-- 'input.LawS0162BBuiltWhole': WHATEVER THE INPUT: true; the input reads as it did. -/
def lawS0162BBuiltWholeSpec : ChangeSpec := { name := "lawS0162BBuiltWhole", fn := fun _ => fun
  | [d] => { results := [.lit (.bool true)], args := [d] }
  | _ => none }
def lawS0162BBuiltWholeRow : OpenClaim := { program := "ybulkcigfmt", sum := "90081bc2de374edebffc3f5ebae1249fa8c07419c32ecd753041e8ebd30545f3", func := "example.com/vestline/vestline/internal/input.LawS0162BBuiltWhole", spec := "lawS0162BBuiltWhole", stops := ["fmt.Sprintf"], inPlace := ["fmt.Sprintf"], apart := false }
/-- NO THEOREM (fmt's text is open here; it may be false): for the released tool's asking of the row's closed facts alone. THE STATEMENT IS 'LawS0162BBuiltWholeToldSaid' (YbulkcigFmtCards.lean). -/
def LawS0162BBuiltWholeFormAsk : Prop := lawS0162BBuiltWholeRow.holds Ybaf.pinned (OpenSpec.ofChange lawS0162BBuiltWholeSpec)

/-- ITS FALSE NEIGHBOUR: 'it returns false'. Refute it at one input. -/
def lawS0162BBuiltWholeWrong : ChangeSpec := { name := "lawS0162BBuiltWhole", fn := fun _ => fun
  | [d] => { results := [.lit (.bool false)], args := [d] }
  | _ => none }
def LawS0162BBuiltWholeWrongFormAsk : Prop := lawS0162BBuiltWholeRow.holds Ybaf.pinned (OpenSpec.ofChange lawS0162BBuiltWholeWrong)

end Rows
end Go.Proofs.YbulkcigFmt
