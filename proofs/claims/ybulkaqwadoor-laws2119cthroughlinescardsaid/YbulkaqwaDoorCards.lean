/-
  DERIVED. GIVEN WITH THE SEED: THE CARDS: each row of YbulkaqwaDoorRows.lean that lists a variable, with what it lists TIED to the program's text (the seventh form; the later family's looks); each row that meets fmt, with fmt's text TOLD by the authors' own Lean function (tested against real Go, not proved from fmt's source: count such statements apart). THE CARD IS WHAT COUNTS. Prove the row's statement (the work); the ties are given (YbulkaqwaDoorTie.lean); close each card by the builder's one call (the guide's Derived/Test/ToyasCard.lean, 'card_holds'). Laid BY PROGRAM, IN A SANDBOX (cutbox-door.mjs). By AI agents, Wed Nov 11 2026. No macro, syntax, notation, axiom, sorry.
-/
import Derived.Test.YbulkaqwaDoorRows
import GoSem.ClaimSeven
namespace Go.Proofs.YbulkaqwaDoor
namespace Rows

/-- THE TIED CARD OF 'sluice.LawS2119CLine'. -/
def lawS2119CLineCard : Claim7 := { stood := { row := lawS2119CLineRow, standIns := [], harness := (true, "c4f0bc47d0f115e0b0fcdac521db04c6499ba78adb72b2e62acc2a78943a0c7c"), looks := false }, kinds := [], alts := [], laidByText := true, laidKinds := [.data, .data, .data], laidTests := true, laidLooks := .later }
def LawS2119CLineCardSaid : Prop := Claim7.holds Ybad.pinned (.plain (OpenSpec.ofChange lawS2119CLineSpec)) lawS2119CLineCard

/-- THE TIED CARD OF 'sluice.LawS2119CThroughLines'. -/
def lawS2119CThroughLinesCard : Claim7 := { stood := { row := lawS2119CThroughLinesRow, standIns := [], harness := (true, "c4f0bc47d0f115e0b0fcdac521db04c6499ba78adb72b2e62acc2a78943a0c7c"), looks := false }, kinds := [], alts := [], laidByText := true, laidKinds := [.data, .data, .data, .data], laidTests := true, laidLooks := .later }
def LawS2119CThroughLinesCardSaid : Prop := Claim7.holds Ybad.pinned (.plain (OpenSpec.ofChange lawS2119CThroughLinesSpec)) lawS2119CThroughLinesCard
end Rows
end Go.Proofs.YbulkaqwaDoor
