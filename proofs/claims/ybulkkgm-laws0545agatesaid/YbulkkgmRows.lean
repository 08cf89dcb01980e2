/-
  No cell of these rows narrows 'for every input' (looked for: loops, veiled, ifaces, maps, wideKeys, modest, calm, conditions, laid).
  DERIVED. THE GIVEN ROWS OF THIS SEAT. 1 by the template 'for every input the law returns true; each argument reads behind the call as it read before'; 0 by the template 'total and deterministic' (their statements: YbulkkgmTotals.lean).
  GIVEN WITH THE SEED: the statements are not yours to turn. If you find one false, say at which input.
  Laid BY PROGRAM, IN A SANDBOX (cutbox-rows.mjs): the forced cells as the released guide's own fill.sh prints them over the translation 837f7089f083a599… (all of the seat's roots in one cut). By AI agents, Wed Nov 11 2026. No macro, syntax, notation, axiom, sorry.
-/
import Derived.Test.YbulkkgmChecked
import GoSem.Claim
import GoSem.ClaimJoined
import GoSem.ClaimMapViews
import Derived.JoinedTies
import Derived.KernelRfl
namespace Go.Proofs.Ybulkkgm
/- THE CELL 'sum', in the pinned program and in every row, IS THE sha256 OF THE DUMP (.gsa) THAT YbulkkgmProg.lean LOADS. Nothing in Lean hashes anything: it is a label: what it is worth is what the hold of that sum in a sandbox is worth. -/
noncomputable def Yba.pinned : Pinned := { name := "ybulkkgm", sum := "837f7089f083a599f707a8815f3bd04628923c606375bb64d704c8ced3227dbd", checked := Yba.checked }
namespace Rows
def none {H : Type} : Left H := { results := [], args := [] }

/-- 'sim.LawS0545AGate': WHATEVER THE INPUT: true; the input reads as it did. -/
def lawS0545AGateSpec : ChangeSpec := { name := "lawS0545AGate", fn := fun _ => fun
  | [d1, d2, d3, d4] => { results := [.lit (.bool true)], args := [d1, d2, d3, d4] }
  | _ => none }
def lawS0545AGateRow : OpenClaim := { program := "ybulkkgm", sum := "837f7089f083a599f707a8815f3bd04628923c606375bb64d704c8ced3227dbd", func := "example.com/tallyrack/tallyrack/sim.LawS0545AGate", spec := "lawS0545AGate", unfollowed := true, recurses := true, apart := false }
def LawS0545AGateSaid : Prop := lawS0545AGateRow.holds Yba.pinned (OpenSpec.ofChange lawS0545AGateSpec)

/-- ITS FALSE NEIGHBOUR: 'it returns false'. Refute it at one input. -/
def lawS0545AGateWrong : ChangeSpec := { name := "lawS0545AGate", fn := fun _ => fun
  | [d1, d2, d3, d4] => { results := [.lit (.bool false)], args := [d1, d2, d3, d4] }
  | _ => none }
def LawS0545AGateWrongFalsely : Prop := lawS0545AGateRow.holds Yba.pinned (OpenSpec.ofChange lawS0545AGateWrong)

end Rows
end Go.Proofs.Ybulkkgm
