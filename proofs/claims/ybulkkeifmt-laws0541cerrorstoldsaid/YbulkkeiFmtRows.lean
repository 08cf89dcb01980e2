/-
  NARROWER THAN 'FOR EVERY INPUT', by the rows' own cells (each row's printed sentence says how): LawS0541CErrors: ifaces, laid.
  DERIVED. THE GIVEN ROWS OF THIS SEAT. 1 by the template 'for every input the law returns true; each argument reads behind the call as it read before'; 0 by the template 'total and deterministic' (their statements: YbulkkeiFmtTotals.lean).
  GIVEN WITH THE SEED: the statements are not yours to turn. If you find one false, say at which input.
  Laid BY PROGRAM, IN A SANDBOX (cutbox-rows.mjs): the forced cells as the released guide's own fill.sh prints them over the translation 4be0f1bb387eb8f6… (all of the seat's roots in one cut). By AI agents, Wed Nov 11 2026. No macro, syntax, notation, axiom, sorry.
-/
import Derived.Test.YbulkkeiFmtChecked
import GoSem.Claim
import GoSem.ClaimJoined
import GoSem.ClaimMapViews
import Derived.JoinedTies
import Derived.KernelRfl
namespace Go.Proofs.YbulkkeiFmt
/- THE CELL 'sum', in the pinned program and in every row, IS THE sha256 OF THE DUMP (.gsa) THAT YbulkkeiFmtProg.lean LOADS. Nothing in Lean hashes anything: it is a label: what it is worth is what the hold of that sum in a sandbox is worth. -/
noncomputable def Ybaf.pinned : Pinned := { name := "ybulkkeifmt", sum := "4be0f1bb387eb8f641d1e71dd2e6016cdcf9fa39460ceeeafb00b4d60e5edc14", checked := Ybaf.checked }
namespace Rows
def none {H : Type} : Left H := { results := [], args := [] }

/- WHAT THE LISTED PACKAGE-LEVEL VARIABLES READ AS WHEN THE CALL BEGINS. Each datum BY PROGRAM (the guide's laid-datum.mjs) off the statement by which the dump's own 'gosem.cut.vars' lays the variable. In a bare row this is a premise. The card (YbulkkeiFmtCards.lean) ties it to the program's text. -/
def laid_example_com_refract_refract_errNoChains {H : Type} : DataW H := .iface "*errors.errorString" (.ptr (.agg [.lit (.string [116, 104, 101, 32, 110, 117, 109, 98, 101, 114, 32, 111, 102, 32, 118, 111, 116, 101, 114, 32, 99, 104, 97, 105, 110, 115, 32, 109, 117, 115, 116, 32, 98, 101, 32, 97, 116, 32, 108, 101, 97, 115, 116, 32, 49])]))

/-- 'refract.LawS0541CErrors': WHATEVER THE INPUT: true; the input reads as it did. -/
def lawS0541CErrorsSpec : ChangeSpec := { name := "lawS0541CErrors", vars := ["example.com/refract/refract.errNoChains"], fn := fun _ => fun
  | [d1, d2, d3, g1] => { results := [.lit (.bool true)], args := [d1, d2, d3], vars := [g1] }
  | _ => none }
def lawS0541CErrorsRow : OpenClaim := { program := "ybulkkeifmt", sum := "4be0f1bb387eb8f641d1e71dd2e6016cdcf9fa39460ceeeafb00b4d60e5edc14", func := "example.com/refract/refract.LawS0541CErrors", spec := "lawS0541CErrors", stops := ["fmt.errorf, its operands' methods called"], inPlace := ["fmt.errorf"], unfollowed := true, recurses := true, named := ["example.com/refract/refract.errNoChains"], ifaces := true, apart := false, laid := [("example.com/refract/refract.errNoChains", laid_example_com_refract_refract_errNoChains)] }
/-- NO THEOREM (fmt's text is open here; it may be false): for the released tool's asking of the row's closed facts alone. THE STATEMENT IS 'LawS0541CErrorsToldSaid' (YbulkkeiFmtCards.lean). -/
def LawS0541CErrorsFormAsk : Prop := lawS0541CErrorsRow.holds Ybaf.pinned (OpenSpec.ofChange lawS0541CErrorsSpec)

/-- ITS FALSE NEIGHBOUR: 'it returns false'. Refute it at one input. -/
def lawS0541CErrorsWrong : ChangeSpec := { name := "lawS0541CErrors", vars := ["example.com/refract/refract.errNoChains"], fn := fun _ => fun
  | [d1, d2, d3, g1] => { results := [.lit (.bool false)], args := [d1, d2, d3], vars := [g1] }
  | _ => none }
def LawS0541CErrorsWrongFormAsk : Prop := lawS0541CErrorsRow.holds Ybaf.pinned (OpenSpec.ofChange lawS0541CErrorsWrong)

end Rows
end Go.Proofs.YbulkkeiFmt
