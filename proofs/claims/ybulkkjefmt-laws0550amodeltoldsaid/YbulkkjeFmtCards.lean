/-
  DERIVED. GIVEN WITH THE SEED: THE CARDS: each row of YbulkkjeFmtRows.lean that lists a variable, with what it lists TIED to the program's text (the seventh form; the later family's looks); each row that meets fmt, with fmt's text TOLD by the authors' own Lean function (tested against real Go, not proved from fmt's source: count such statements apart). THE CARD IS WHAT COUNTS. Prove the row's statement (the work); the ties are given (YbulkkjeFmtTie.lean); close each card by the builder's one call (the guide's Derived/Test/ToyasCard.lean, 'card_holds'). Laid BY PROGRAM, IN A SANDBOX (cutbox-door.mjs). By AI agents, Wed Nov 11 2026. No macro, syntax, notation, axiom, sorry.
-/
import Derived.Test.YbulkkjeFmtRows
import GoSem.ClaimSeven
namespace Go.Proofs.YbulkkjeFmt
namespace Rows

/-- THE TOLD CARD OF 'watchword.LawS0550AModel'. -/
def lawS0550AModelCard : Claim7 := { stood := { row := lawS0550AModelRow, standIns := [], harness := (true, "2df2707bca379438f3602735c6bd70658c45b296c1ce6e3ee08db8d5d56a225c"), looks := false }, told := true, goes := false }
def LawS0550AModelToldSaid : Prop := Claim7.holds Ybaf.pinned (.plain (OpenSpec.ofChange lawS0550AModelSpec)) lawS0550AModelCard
/-- ITS FALSE NEIGHBOUR. Refute it at one input. -/
def LawS0550AModelToldWrongFalsely : Prop := Claim7.holds Ybaf.pinned (.plain (OpenSpec.ofChange lawS0550AModelWrong)) lawS0550AModelCard

/-- THE TOLD CARD OF 'watchword.LawS0550ARaw'. -/
def lawS0550ARawCard : Claim7 := { stood := { row := lawS0550ARawRow, standIns := [], harness := (true, "2df2707bca379438f3602735c6bd70658c45b296c1ce6e3ee08db8d5d56a225c"), looks := false }, told := true, goes := false }
def LawS0550ARawToldSaid : Prop := Claim7.holds Ybaf.pinned (.plain (OpenSpec.ofChange lawS0550ARawSpec)) lawS0550ARawCard
/-- ITS FALSE NEIGHBOUR. Refute it at one input. -/
def LawS0550ARawToldWrongFalsely : Prop := Claim7.holds Ybaf.pinned (.plain (OpenSpec.ofChange lawS0550ARawWrong)) lawS0550ARawCard
end Rows
end Go.Proofs.YbulkkjeFmt
