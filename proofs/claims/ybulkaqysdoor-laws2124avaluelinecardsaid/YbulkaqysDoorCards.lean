/-
  DERIVED. GIVEN WITH THE SEED: THE CARDS: each row of YbulkaqysDoorRows.lean that lists a variable, with what it lists TIED to the program's text (the seventh form; the later family's looks); each row that meets fmt, with fmt's text TOLD by the authors' own Lean function (tested against real Go, not proved from fmt's source: count such statements apart). THE CARD IS WHAT COUNTS. Prove the row's statement (the work); the ties are given (YbulkaqysDoorTie.lean); close each card by the builder's one call (the guide's Derived/Test/ToyasCard.lean, 'card_holds'). Laid BY PROGRAM, IN A SANDBOX (cutbox-door.mjs). By AI agents, Wed Nov 11 2026. No macro, syntax, notation, axiom, sorry.
-/
import Derived.Test.YbulkaqysDoorRows
import GoSem.ClaimSeven
namespace Go.Proofs.YbulkaqysDoor
namespace Rows

/-- THE TIED CARD OF 'turpincoan.LawS2124AValueLine'. -/
def lawS2124AValueLineCard : Claim7 := { stood := { row := lawS2124AValueLineRow, standIns := [], harness := (true, "d979c644819c77bffad8e3f4e90d81b2f09340602b5728315a68e77d0883af67"), looks := false }, kinds := [], alts := [], laidByText := true, laidKinds := [.data, .data, .data], laidTests := true, laidLooks := .later }
def LawS2124AValueLineCardSaid : Prop := Claim7.holds Ybad.pinned (.plain (OpenSpec.ofChange lawS2124AValueLineSpec)) lawS2124AValueLineCard

/-- THE TIED CARD OF 'turpincoan.LawS2124ANone'. -/
def lawS2124ANoneCard : Claim7 := { stood := { row := lawS2124ANoneRow, standIns := [], harness := (true, "d979c644819c77bffad8e3f4e90d81b2f09340602b5728315a68e77d0883af67"), looks := false }, kinds := [], alts := [], laidByText := true, laidKinds := [.data, .data, .data], laidTests := true, laidLooks := .later }
def LawS2124ANoneCardSaid : Prop := Claim7.holds Ybad.pinned (.plain (OpenSpec.ofChange lawS2124ANoneSpec)) lawS2124ANoneCard

/-- THE TIED CARD OF 'jsonobject.LawS2124BShape'. -/
def lawS2124BShapeCard : Claim7 := { stood := { row := lawS2124BShapeRow, standIns := [], harness := (true, "d979c644819c77bffad8e3f4e90d81b2f09340602b5728315a68e77d0883af67"), looks := false }, kinds := [], alts := [], laidByText := true, laidKinds := [.data, .pinned], laidTests := true, laidLooks := .later }
def LawS2124BShapeCardSaid : Prop := Claim7.holds Ybad.pinned (.plain (OpenSpec.ofChange lawS2124BShapeSpec)) lawS2124BShapeCard

/-- THE TIED CARD OF 'jsonobject.LawS2124BPlain'. -/
def lawS2124BPlainCard : Claim7 := { stood := { row := lawS2124BPlainRow, standIns := [], harness := (true, "d979c644819c77bffad8e3f4e90d81b2f09340602b5728315a68e77d0883af67"), looks := false }, kinds := [], alts := [], laidByText := true, laidKinds := [.data, .pinned], laidTests := true, laidLooks := .later }
def LawS2124BPlainCardSaid : Prop := Claim7.holds Ybad.pinned (.plain (OpenSpec.ofChange lawS2124BPlainSpec)) lawS2124BPlainCard
end Rows
end Go.Proofs.YbulkaqysDoor
