/-
  DERIVED. GIVEN WITH THE SEED: THE CARDS: each row of YbulkcigFmtRows.lean that lists a variable, with what it lists TIED to the program's text (the seventh form; the later family's looks); each row that meets fmt, with fmt's text TOLD by the authors' own Lean function (tested against real Go, not proved from fmt's source: count such statements apart). THE CARD IS WHAT COUNTS. Prove the row's statement (the work); the ties are given (YbulkcigFmtTie.lean); close each card by the builder's one call (the guide's Derived/Test/ToyasCard.lean, 'card_holds'). Laid BY PROGRAM, IN A SANDBOX (cutbox-door.mjs). By AI agents, Wed Nov 11 2026. No macro, syntax, notation, axiom, sorry.
-/
import Derived.Test.YbulkcigFmtRows
import GoSem.ClaimSeven
namespace Go.Proofs.YbulkcigFmt
namespace Rows

/-- THE TOLD CARD OF 'input.LawS0162BShortWhole'. -/
def lawS0162BShortWholeCard : Claim7 := { stood := { row := lawS0162BShortWholeRow, standIns := [], harness := (true, "e14ca01f49b5179f7bac66fbdef2821b048e96c9fc63d4e6c25c833d50e15b7b"), looks := false }, told := true, goes := false }
def LawS0162BShortWholeToldSaid : Prop := Claim7.holds Ybaf.pinned (.plain (OpenSpec.ofChange lawS0162BShortWholeSpec)) lawS0162BShortWholeCard
/-- ITS FALSE NEIGHBOUR. Refute it at one input. -/
def LawS0162BShortWholeToldWrongFalsely : Prop := Claim7.holds Ybaf.pinned (.plain (OpenSpec.ofChange lawS0162BShortWholeWrong)) lawS0162BShortWholeCard

/-- THE TOLD CARD OF 'input.LawS0162BBuiltWhole'. -/
def lawS0162BBuiltWholeCard : Claim7 := { stood := { row := lawS0162BBuiltWholeRow, standIns := [], harness := (true, "e14ca01f49b5179f7bac66fbdef2821b048e96c9fc63d4e6c25c833d50e15b7b"), looks := false }, told := true, goes := false }
def LawS0162BBuiltWholeToldSaid : Prop := Claim7.holds Ybaf.pinned (.plain (OpenSpec.ofChange lawS0162BBuiltWholeSpec)) lawS0162BBuiltWholeCard
/-- ITS FALSE NEIGHBOUR. Refute it at one input. -/
def LawS0162BBuiltWholeToldWrongFalsely : Prop := Claim7.holds Ybaf.pinned (.plain (OpenSpec.ofChange lawS0162BBuiltWholeWrong)) lawS0162BBuiltWholeCard
end Rows
end Go.Proofs.YbulkcigFmt
