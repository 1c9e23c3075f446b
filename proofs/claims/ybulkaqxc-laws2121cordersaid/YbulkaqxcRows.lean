/-
  No cell of these rows narrows 'for every input' (looked for: loops, veiled, ifaces, maps, wideKeys, modest, calm, conditions, laid).
  DERIVED. THE GIVEN ROWS OF THIS SEAT. 2 by the template 'for every input the law returns true; each argument reads behind the call as it read before'; 0 by the template 'total and deterministic' (their statements: YbulkaqxcTotals.lean).
  GIVEN WITH THE SEED: the statements are not yours to turn. If you find one false, say at which input.
  Laid BY PROGRAM, IN A SANDBOX (cutbox-rows.mjs): the forced cells as the released guide's own fill.sh prints them over the translation 114e19da5564b713… (all of the seat's roots in one cut). By AI agents, Wed Nov 11 2026. No macro, syntax, notation, axiom, sorry.
-/
import Derived.Test.YbulkaqxcChecked
import GoSem.Claim
import GoSem.ClaimJoined
import GoSem.ClaimMapViews
import Derived.JoinedTies
import Derived.KernelRfl
namespace Go.Proofs.Ybulkaqxc
/- THE CELL 'sum', in the pinned program and in every row, IS THE sha256 OF THE DUMP (.gsa) THAT YbulkaqxcProg.lean LOADS. Nothing in Lean hashes anything: it is a label: what it is worth is what the hold of that sum in a sandbox is worth. -/
noncomputable def Yba.pinned : Pinned := { name := "ybulkaqxc", sum := "114e19da5564b71369fed42a6dcc588c529c1d3fcb0d215e693e1be0e3dfa66e", checked := Yba.checked }
namespace Rows
def none {H : Type} : Left H := { results := [], args := [] }

/-- 'tidemark.LawS2121CExact': WHATEVER THE INPUT: true; the input reads as it did. -/
def lawS2121CExactSpec : ChangeSpec := { name := "lawS2121CExact", fn := fun _ => fun
  | [d1, d2, d3, d4] => { results := [.lit (.bool true)], args := [d1, d2, d3, d4] }
  | _ => none }
def lawS2121CExactRow : OpenClaim := { program := "ybulkaqxc", sum := "114e19da5564b71369fed42a6dcc588c529c1d3fcb0d215e693e1be0e3dfa66e", func := "example.com/tidemark/tidemark.LawS2121CExact", spec := "lawS2121CExact", apart := false }
def LawS2121CExactSaid : Prop := lawS2121CExactRow.holds Yba.pinned (OpenSpec.ofChange lawS2121CExactSpec)

/-- ITS FALSE NEIGHBOUR: 'it returns false'. Refute it at one input. -/
def lawS2121CExactWrong : ChangeSpec := { name := "lawS2121CExact", fn := fun _ => fun
  | [d1, d2, d3, d4] => { results := [.lit (.bool false)], args := [d1, d2, d3, d4] }
  | _ => none }
def LawS2121CExactWrongFalsely : Prop := lawS2121CExactRow.holds Yba.pinned (OpenSpec.ofChange lawS2121CExactWrong)

/-- 'tidemark.LawS2121COrder': WHATEVER THE INPUT: true; the input reads as it did. -/
def lawS2121COrderSpec : ChangeSpec := { name := "lawS2121COrder", fn := fun _ => fun
  | [d1, d2, d3, d4, d5, d6] => { results := [.lit (.bool true)], args := [d1, d2, d3, d4, d5, d6] }
  | _ => none }
def lawS2121COrderRow : OpenClaim := { program := "ybulkaqxc", sum := "114e19da5564b71369fed42a6dcc588c529c1d3fcb0d215e693e1be0e3dfa66e", func := "example.com/tidemark/tidemark.LawS2121COrder", spec := "lawS2121COrder", apart := false }
def LawS2121COrderSaid : Prop := lawS2121COrderRow.holds Yba.pinned (OpenSpec.ofChange lawS2121COrderSpec)

/-- ITS FALSE NEIGHBOUR: 'it returns false'. Refute it at one input. -/
def lawS2121COrderWrong : ChangeSpec := { name := "lawS2121COrder", fn := fun _ => fun
  | [d1, d2, d3, d4, d5, d6] => { results := [.lit (.bool false)], args := [d1, d2, d3, d4, d5, d6] }
  | _ => none }
def LawS2121COrderWrongFalsely : Prop := lawS2121COrderRow.holds Yba.pinned (OpenSpec.ofChange lawS2121COrderWrong)

end Rows
end Go.Proofs.Ybulkaqxc
