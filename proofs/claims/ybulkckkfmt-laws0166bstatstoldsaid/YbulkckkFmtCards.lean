/-
  DERIVED. GIVEN WITH THE SEED: THE CARDS: each row of YbulkckkFmtRows.lean that lists a variable, with what it lists TIED to the program's text (the seventh form; the later family's looks); each row that meets fmt, with fmt's text TOLD by the authors' own Lean function (tested against real Go, not proved from fmt's source: count such statements apart). THE CARD IS WHAT COUNTS. Prove the row's statement (the work); the ties are given (YbulkckkFmtTie.lean); close each card by the builder's one call (the guide's Derived/Test/ToyasCard.lean, 'card_holds'). Laid BY PROGRAM, IN A SANDBOX (cutbox-door.mjs). By AI agents, Wed Nov 11 2026. No macro, syntax, notation, axiom, sorry.
-/
import Derived.Test.YbulkckkFmtRows
import GoSem.ClaimSeven
namespace Go.Proofs.YbulkckkFmt
namespace Rows

/-- THE TOLD AND TIED CARD OF 'report.LawS0166BStats'. -/
def lawS0166BStatsCard : Claim7 := { stood := { row := lawS0166BStatsRow, standIns := [], harness := (true, "d78bc50335f53c63024474e5752d05aba34886a15bca7beb73a1156311f85027"), looks := false }, told := true, laidByText := true, laidKinds := [.data, .data, .data], laidTests := true, laidLooks := .later, goes := false }
def LawS0166BStatsToldSaid : Prop := Claim7.holds Ybaf.pinned (.plain (OpenSpec.ofChange lawS0166BStatsSpec)) lawS0166BStatsCard
/-- ITS FALSE NEIGHBOUR. Refute it at one input. -/
def LawS0166BStatsToldWrongFalsely : Prop := Claim7.holds Ybaf.pinned (.plain (OpenSpec.ofChange lawS0166BStatsWrong)) lawS0166BStatsCard
end Rows
end Go.Proofs.YbulkckkFmt
