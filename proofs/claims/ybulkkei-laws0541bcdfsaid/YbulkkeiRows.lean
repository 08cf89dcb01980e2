/-
  No cell of these rows narrows 'for every input' (looked for: loops, veiled, ifaces, maps, wideKeys, modest, calm, conditions, laid).
  DERIVED. THE GIVEN ROWS OF THIS SEAT. 2 by the template 'for every input the law returns true; each argument reads behind the call as it read before'; 0 by the template 'total and deterministic' (their statements: YbulkkeiTotals.lean).
  GIVEN WITH THE SEED: the statements are not yours to turn. If you find one false, say at which input.
  Laid BY PROGRAM, IN A SANDBOX (cutbox-rows.mjs): the forced cells as the released guide's own fill.sh prints them over the translation 0ee6c48f343a5993… (all of the seat's roots in one cut). By AI agents, Wed Nov 11 2026. No macro, syntax, notation, axiom, sorry.
-/
import Derived.Test.YbulkkeiChecked
import GoSem.Claim
import GoSem.ClaimJoined
import GoSem.ClaimMapViews
import Derived.JoinedTies
import Derived.KernelRfl
namespace Go.Proofs.Ybulkkei
/- THE CELL 'sum', in the pinned program and in every row, IS THE sha256 OF THE DUMP (.gsa) THAT YbulkkeiProg.lean LOADS. Nothing in Lean hashes anything: it is a label: what it is worth is what the hold of that sum in a sandbox is worth. -/
noncomputable def Yba.pinned : Pinned := { name := "ybulkkei", sum := "0ee6c48f343a59930ea8b529f5d626ce20611b106baec53431ab15db452cbf57", checked := Yba.checked }
namespace Rows
def none {H : Type} : Left H := { results := [], args := [] }

/-- 'sim.LawS0541BParts': WHATEVER THE INPUT: true; the input reads as it did. -/
def lawS0541BPartsSpec : ChangeSpec := { name := "lawS0541BParts", fn := fun _ => fun
  | [d] => { results := [.lit (.bool true)], args := [d] }
  | _ => none }
def lawS0541BPartsRow : OpenClaim := { program := "ybulkkei", sum := "0ee6c48f343a59930ea8b529f5d626ce20611b106baec53431ab15db452cbf57", func := "example.com/refract/refract/internal/sim.LawS0541BParts", spec := "lawS0541BParts", apart := false }
def LawS0541BPartsSaid : Prop := lawS0541BPartsRow.holds Yba.pinned (OpenSpec.ofChange lawS0541BPartsSpec)

/-- ITS FALSE NEIGHBOUR: 'it returns false'. Refute it at one input. -/
def lawS0541BPartsWrong : ChangeSpec := { name := "lawS0541BParts", fn := fun _ => fun
  | [d] => { results := [.lit (.bool false)], args := [d] }
  | _ => none }
def LawS0541BPartsWrongFalsely : Prop := lawS0541BPartsRow.holds Yba.pinned (OpenSpec.ofChange lawS0541BPartsWrong)

/-- 'sim.LawS0541BCdf': WHATEVER THE INPUT: true; the input reads as it did. -/
def lawS0541BCdfSpec : ChangeSpec := { name := "lawS0541BCdf", fn := fun _ => fun
  | [d] => { results := [.lit (.bool true)], args := [d] }
  | _ => none }
def lawS0541BCdfRow : OpenClaim := { program := "ybulkkei", sum := "0ee6c48f343a59930ea8b529f5d626ce20611b106baec53431ab15db452cbf57", func := "example.com/refract/refract/internal/sim.LawS0541BCdf", spec := "lawS0541BCdf", apart := false }
def LawS0541BCdfSaid : Prop := lawS0541BCdfRow.holds Yba.pinned (OpenSpec.ofChange lawS0541BCdfSpec)

/-- ITS FALSE NEIGHBOUR: 'it returns false'. Refute it at one input. -/
def lawS0541BCdfWrong : ChangeSpec := { name := "lawS0541BCdf", fn := fun _ => fun
  | [d] => { results := [.lit (.bool false)], args := [d] }
  | _ => none }
def LawS0541BCdfWrongFalsely : Prop := lawS0541BCdfRow.holds Yba.pinned (OpenSpec.ofChange lawS0541BCdfWrong)

end Rows
end Go.Proofs.Ybulkkei
