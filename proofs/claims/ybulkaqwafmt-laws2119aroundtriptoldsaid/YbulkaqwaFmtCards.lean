/-
  DERIVED. GIVEN WITH THE SEED: THE CARDS: each row of YbulkaqwaFmtRows.lean that lists a variable, with what it lists TIED to the program's text (the seventh form; the later family's looks); each row that meets fmt, with fmt's text TOLD by the authors' own Lean function (tested against real Go, not proved from fmt's source: count such statements apart). THE CARD IS WHAT COUNTS. Prove the row's statement (the work); the ties are given (YbulkaqwaFmtTie.lean); close each card by the builder's one call (the guide's Derived/Test/ToyasCard.lean, 'card_holds'). Laid BY PROGRAM, IN A SANDBOX (cutbox-door.mjs). By AI agents, Wed Nov 11 2026. No macro, syntax, notation, axiom, sorry.
-/
import Derived.Test.YbulkaqwaFmtRows
import GoSem.ClaimSeven
namespace Go.Proofs.YbulkaqwaFmt
namespace Rows

/-- THE TOLD AND TIED CARD OF 'sluice.LawS2119ARoundTrip'. -/
def lawS2119ARoundTripCard : Claim7 := { stood := { row := lawS2119ARoundTripRow, standIns := [], harness := (true, "d8df56dc5309099491d9da859755373c5f05af2694eb45e0e00b43b8cdcd85e6"), looks := true }, told := true, laidByText := true, laidKinds := [.sentinel, .sentinel], laidTests := true, laidLooks := .later, goes := false }
def LawS2119ARoundTripToldSaid : Prop := Claim7.holds Ybaf.pinned (.plain (OpenSpec.ofChange lawS2119ARoundTripSpec)) lawS2119ARoundTripCard
/-- ITS FALSE NEIGHBOUR. Refute it at one input. -/
def LawS2119ARoundTripToldWrongFalsely : Prop := Claim7.holds Ybaf.pinned (.plain (OpenSpec.ofChange lawS2119ARoundTripWrong)) lawS2119ARoundTripCard

/-- THE TOLD AND TIED CARD OF 'sluice.LawS2119BAgree'. -/
def lawS2119BAgreeCard : Claim7 := { stood := { row := lawS2119BAgreeRow, standIns := [], harness := (true, "d8df56dc5309099491d9da859755373c5f05af2694eb45e0e00b43b8cdcd85e6"), looks := true }, told := true, laidByText := true, laidKinds := [.sentinel], laidTests := true, laidLooks := .later, goes := false }
def LawS2119BAgreeToldSaid : Prop := Claim7.holds Ybaf.pinned (.plain (OpenSpec.ofChange lawS2119BAgreeSpec)) lawS2119BAgreeCard
/-- ITS FALSE NEIGHBOUR. Refute it at one input. -/
def LawS2119BAgreeToldWrongFalsely : Prop := Claim7.holds Ybaf.pinned (.plain (OpenSpec.ofChange lawS2119BAgreeWrong)) lawS2119BAgreeCard

/-- THE TOLD AND TIED CARD OF 'sluice.LawS2119BWellFormed'. -/
def lawS2119BWellFormedCard : Claim7 := { stood := { row := lawS2119BWellFormedRow, standIns := [], harness := (true, "d8df56dc5309099491d9da859755373c5f05af2694eb45e0e00b43b8cdcd85e6"), looks := true }, told := true, laidByText := true, laidKinds := [.data, .sentinel], laidTests := true, laidLooks := .later, goes := false }
def LawS2119BWellFormedToldSaid : Prop := Claim7.holds Ybaf.pinned (.plain (OpenSpec.ofChange lawS2119BWellFormedSpec)) lawS2119BWellFormedCard
/-- ITS FALSE NEIGHBOUR. Refute it at one input. -/
def LawS2119BWellFormedToldWrongFalsely : Prop := Claim7.holds Ybaf.pinned (.plain (OpenSpec.ofChange lawS2119BWellFormedWrong)) lawS2119BWellFormedCard
end Rows
end Go.Proofs.YbulkaqwaFmt
