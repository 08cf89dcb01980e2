/-
  No cell of these rows narrows 'for every input' (looked for: loops, veiled, ifaces, maps, wideKeys, modest, calm, conditions, laid).
  DERIVED. THE GIVEN ROWS OF THIS SEAT. 1 by the template 'for every input the law returns true; each argument reads behind the call as it read before'; 0 by the template 'total and deterministic' (their statements: YbulkkhoTotals.lean).
  GIVEN WITH THE SEED: the statements are not yours to turn. If you find one false, say at which input.
  Laid BY PROGRAM, IN A SANDBOX (cutbox-rows.mjs): the forced cells as the released guide's own fill.sh prints them over the translation c21ea94db0289141… (all of the seat's roots in one cut). By AI agents, Wed Nov 11 2026. No macro, syntax, notation, axiom, sorry.
-/
import Derived.Test.YbulkkhoChecked
import GoSem.Claim
import GoSem.ClaimJoined
import GoSem.ClaimMapViews
import Derived.JoinedTies
import Derived.KernelRfl
namespace Go.Proofs.Ybulkkho
/- THE CELL 'sum', in the pinned program and in every row, IS THE sha256 OF THE DUMP (.gsa) THAT YbulkkhoProg.lean LOADS. Nothing in Lean hashes anything: it is a label: what it is worth is what the hold of that sum in a sandbox is worth. -/
noncomputable def Yba.pinned : Pinned := { name := "ybulkkho", sum := "c21ea94db0289141d475a7e89647875f501a017066837d651448dcf641fd726a", checked := Yba.checked }
namespace Rows
def none {H : Type} : Left H := { results := [], args := [] }

/-- 'wire.LawS0547AHeader': WHATEVER THE INPUT: true; the input reads as it did. -/
def lawS0547AHeaderSpec : ChangeSpec := { name := "lawS0547AHeader", fn := fun _ => fun
  | [d1, d2, d3, d4] => { results := [.lit (.bool true)], args := [d1, d2, d3, d4] }
  | _ => none }
def lawS0547AHeaderRow : OpenClaim := { program := "ybulkkho", sum := "c21ea94db0289141d475a7e89647875f501a017066837d651448dcf641fd726a", func := "example.com/fewhop/fewhop/internal/wire.LawS0547AHeader", spec := "lawS0547AHeader", apart := false }
def LawS0547AHeaderSaid : Prop := lawS0547AHeaderRow.holds Yba.pinned (OpenSpec.ofChange lawS0547AHeaderSpec)

/-- ITS FALSE NEIGHBOUR: 'it returns false'. Refute it at one input. -/
def lawS0547AHeaderWrong : ChangeSpec := { name := "lawS0547AHeader", fn := fun _ => fun
  | [d1, d2, d3, d4] => { results := [.lit (.bool false)], args := [d1, d2, d3, d4] }
  | _ => none }
def LawS0547AHeaderWrongFalsely : Prop := lawS0547AHeaderRow.holds Yba.pinned (OpenSpec.ofChange lawS0547AHeaderWrong)

end Rows
end Go.Proofs.Ybulkkho
