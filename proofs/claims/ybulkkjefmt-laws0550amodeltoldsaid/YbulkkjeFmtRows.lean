/-
  No cell of these rows narrows 'for every input' (looked for: loops, veiled, ifaces, maps, wideKeys, modest, calm, conditions, laid).
  DERIVED. THE GIVEN ROWS OF THIS SEAT. 2 by the template 'for every input the law returns true; each argument reads behind the call as it read before'; 0 by the template 'total and deterministic' (their statements: YbulkkjeFmtTotals.lean).
  GIVEN WITH THE SEED: the statements are not yours to turn. If you find one false, say at which input.
  Laid BY PROGRAM, IN A SANDBOX (cutbox-rows.mjs): the forced cells as the released guide's own fill.sh prints them over the translation 962c9509586c3430… (all of the seat's roots in one cut). By AI agents, Wed Nov 11 2026. No macro, syntax, notation, axiom, sorry.
-/
import Derived.Test.YbulkkjeFmtChecked
import GoSem.Claim
import GoSem.ClaimJoined
import GoSem.ClaimMapViews
import Derived.JoinedTies
import Derived.KernelRfl
namespace Go.Proofs.YbulkkjeFmt
/- THE CELL 'sum', in the pinned program and in every row, IS THE sha256 OF THE DUMP (.gsa) THAT YbulkkjeFmtProg.lean LOADS. Nothing in Lean hashes anything: it is a label: what it is worth is what the hold of that sum in a sandbox is worth. -/
noncomputable def Ybaf.pinned : Pinned := { name := "ybulkkjefmt", sum := "962c9509586c343063f1763d33906464bad6d0f6c364653722a8d8a96da3fe85", checked := Ybaf.checked }
namespace Rows
def none {H : Type} : Left H := { results := [], args := [] }

/-- 'watchword.LawS0550AModel': WHATEVER THE INPUT: true; the input reads as it did. -/
def lawS0550AModelSpec : ChangeSpec := { name := "lawS0550AModel", fn := fun _ => fun
  | [d1, d2, d3, d4] => { results := [.lit (.bool true)], args := [d1, d2, d3, d4] }
  | _ => none }
def lawS0550AModelRow : OpenClaim := { program := "ybulkkjefmt", sum := "962c9509586c343063f1763d33906464bad6d0f6c364653722a8d8a96da3fe85", func := "example.com/watchword/watchword.LawS0550AModel", spec := "lawS0550AModel", stops := ["fmt.errorf", "fmt.Sprintf"], inPlace := ["fmt.Sprintf", "fmt.errorf"], apart := false }
/-- NO THEOREM (fmt's text is open here; it may be false): for the released tool's asking of the row's closed facts alone. THE STATEMENT IS 'LawS0550AModelToldSaid' (YbulkkjeFmtCards.lean). -/
def LawS0550AModelFormAsk : Prop := lawS0550AModelRow.holds Ybaf.pinned (OpenSpec.ofChange lawS0550AModelSpec)

/-- ITS FALSE NEIGHBOUR: 'it returns false'. Refute it at one input. -/
def lawS0550AModelWrong : ChangeSpec := { name := "lawS0550AModel", fn := fun _ => fun
  | [d1, d2, d3, d4] => { results := [.lit (.bool false)], args := [d1, d2, d3, d4] }
  | _ => none }
def LawS0550AModelWrongFormAsk : Prop := lawS0550AModelRow.holds Ybaf.pinned (OpenSpec.ofChange lawS0550AModelWrong)

/-- 'watchword.LawS0550ARaw': WHATEVER THE INPUT: true; the input reads as it did. -/
def lawS0550ARawSpec : ChangeSpec := { name := "lawS0550ARaw", fn := fun _ => fun
  | [d1, d2] => { results := [.lit (.bool true)], args := [d1, d2] }
  | _ => none }
def lawS0550ARawRow : OpenClaim := { program := "ybulkkjefmt", sum := "962c9509586c343063f1763d33906464bad6d0f6c364653722a8d8a96da3fe85", func := "example.com/watchword/watchword.LawS0550ARaw", spec := "lawS0550ARaw", stops := ["fmt.errorf", "fmt.Sprintf"], inPlace := ["fmt.Sprintf", "fmt.errorf"], apart := false }
/-- NO THEOREM (fmt's text is open here; it may be false): for the released tool's asking of the row's closed facts alone. THE STATEMENT IS 'LawS0550ARawToldSaid' (YbulkkjeFmtCards.lean). -/
def LawS0550ARawFormAsk : Prop := lawS0550ARawRow.holds Ybaf.pinned (OpenSpec.ofChange lawS0550ARawSpec)

/-- ITS FALSE NEIGHBOUR: 'it returns false'. Refute it at one input. -/
def lawS0550ARawWrong : ChangeSpec := { name := "lawS0550ARaw", fn := fun _ => fun
  | [d1, d2] => { results := [.lit (.bool false)], args := [d1, d2] }
  | _ => none }
def LawS0550ARawWrongFormAsk : Prop := lawS0550ARawRow.holds Ybaf.pinned (OpenSpec.ofChange lawS0550ARawWrong)

end Rows
end Go.Proofs.YbulkkjeFmt
