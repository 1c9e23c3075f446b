/-
  No cell of these rows narrows 'for every input' (looked for: loops, veiled, ifaces, maps, wideKeys, modest, calm, conditions, laid).
  DERIVED. THE GIVEN ROWS OF THIS SEAT. 1 by the template 'for every input the law returns true; each argument reads behind the call as it read before'; 0 by the template 'total and deterministic' (their statements: YbulkaqwaTotals.lean).
  GIVEN WITH THE SEED: the statements are not yours to turn. If you find one false, say at which input.
  Laid BY PROGRAM, IN A SANDBOX (cutbox-rows.mjs): the forced cells as the released guide's own fill.sh prints them over the translation f6c5e65b8ccc782d… (all of the seat's roots in one cut). By AI agents, Wed Nov 11 2026. No macro, syntax, notation, axiom, sorry.
-/
import Derived.Test.YbulkaqwaChecked
import GoSem.Claim
import GoSem.ClaimJoined
import GoSem.ClaimMapViews
import Derived.JoinedTies
import Derived.KernelRfl
namespace Go.Proofs.Ybulkaqwa
/- THE CELL 'sum', in the pinned program and in every row, IS THE sha256 OF THE DUMP (.gsa) THAT YbulkaqwaProg.lean LOADS. Nothing in Lean hashes anything: it is a label: what it is worth is what the hold of that sum in a sandbox is worth. -/
noncomputable def Yba.pinned : Pinned := { name := "ybulkaqwa", sum := "f6c5e65b8ccc782d9c3d2c8da4eff460e5e03085d9dfccc6d055dc8979df9f67", checked := Yba.checked }
namespace Rows
def none {H : Type} : Left H := { results := [], args := [] }

/-- 'sluice.LawS2119AExact': WHATEVER THE INPUT: true; the input reads as it did. -/
def lawS2119AExactSpec : ChangeSpec := { name := "lawS2119AExact", fn := fun _ => fun
  | [d1, d2, d3] => { results := [.lit (.bool true)], args := [d1, d2, d3] }
  | _ => none }
def lawS2119AExactRow : OpenClaim := { program := "ybulkaqwa", sum := "f6c5e65b8ccc782d9c3d2c8da4eff460e5e03085d9dfccc6d055dc8979df9f67", func := "example.com/sluice/sluice.LawS2119AExact", spec := "lawS2119AExact", apart := false }
def LawS2119AExactSaid : Prop := lawS2119AExactRow.holds Yba.pinned (OpenSpec.ofChange lawS2119AExactSpec)

/-- ITS FALSE NEIGHBOUR: 'it returns false'. Refute it at one input. -/
def lawS2119AExactWrong : ChangeSpec := { name := "lawS2119AExact", fn := fun _ => fun
  | [d1, d2, d3] => { results := [.lit (.bool false)], args := [d1, d2, d3] }
  | _ => none }
def LawS2119AExactWrongFalsely : Prop := lawS2119AExactRow.holds Yba.pinned (OpenSpec.ofChange lawS2119AExactWrong)

end Rows
end Go.Proofs.Ybulkaqwa
