/-
  DERIVED. GIVEN WITH THE SEED: THE CARDS: each row of YbulkkeiFmtRows.lean that lists a variable, with what it lists TIED to the program's text (the seventh form; the later family's looks); each row that meets fmt, with fmt's text TOLD by the authors' own Lean function (tested against real Go, not proved from fmt's source: count such statements apart). THE CARD IS WHAT COUNTS. Prove the row's statement (the work); the ties are given (YbulkkeiFmtTie.lean); close each card by the builder's one call (the guide's Derived/Test/ToyasCard.lean, 'card_holds'). Laid BY PROGRAM, IN A SANDBOX (cutbox-door.mjs). By AI agents, Wed Nov 11 2026. No macro, syntax, notation, axiom, sorry.
-/
import Derived.Test.YbulkkeiFmtRows
import GoSem.ClaimSeven
namespace Go.Proofs.YbulkkeiFmt
namespace Rows

/-- THE TOLD AND TIED CARD OF 'refract.LawS0541CErrors'. -/
def lawS0541CErrorsCard : Claim7 := { stood := { row := lawS0541CErrorsRow, standIns := [], harness := (true, "955eb2815d7628918bedacf5d4314a1c9450f7e9018240c657e76617cca29ef0"), looks := false }, told := true, laidByText := true, laidKinds := [.sentinel], laidTests := true, laidLooks := .later, goes := false }
def LawS0541CErrorsToldSaid : Prop := Claim7.holds Ybaf.pinned (.plain (OpenSpec.ofChange lawS0541CErrorsSpec)) lawS0541CErrorsCard
/-- ITS FALSE NEIGHBOUR. Refute it at one input. -/
def LawS0541CErrorsToldWrongFalsely : Prop := Claim7.holds Ybaf.pinned (.plain (OpenSpec.ofChange lawS0541CErrorsWrong)) lawS0541CErrorsCard
end Rows
end Go.Proofs.YbulkkeiFmt
