/-
  NARROWER THAN 'FOR EVERY INPUT', by the rows' own cells (each row's printed sentence says how): LawS2119ARoundTrip: ifaces, laid · LawS2119BAgree: ifaces, laid · LawS2119BWellFormed: ifaces, laid.
  DERIVED. THE GIVEN ROWS OF THIS SEAT. 3 by the template 'for every input the law returns true; each argument reads behind the call as it read before'; 0 by the template 'total and deterministic' (their statements: YbulkaqwaFmtTotals.lean).
  GIVEN WITH THE SEED: the statements are not yours to turn. If you find one false, say at which input.
  Laid BY PROGRAM, IN A SANDBOX (cutbox-rows.mjs): the forced cells as the released guide's own fill.sh prints them over the translation f723316bc4c6eebd… (all of the seat's roots in one cut). By AI agents, Wed Nov 11 2026. No macro, syntax, notation, axiom, sorry.
-/
import Derived.Test.YbulkaqwaFmtChecked
import GoSem.Claim
import GoSem.ClaimJoined
import GoSem.ClaimMapViews
import Derived.JoinedTies
import Derived.KernelRfl
namespace Go.Proofs.YbulkaqwaFmt
/- THE CELL 'sum', in the pinned program and in every row, IS THE sha256 OF THE DUMP (.gsa) THAT YbulkaqwaFmtProg.lean LOADS. Nothing in Lean hashes anything: it is a label: what it is worth is what the hold of that sum in a sandbox is worth. -/
noncomputable def Ybaf.pinned : Pinned := { name := "ybulkaqwafmt", sum := "f723316bc4c6eebd81a765fcfa66521c99191e5b790b9d650db0b37c0db4fd62", checked := Ybaf.checked }
namespace Rows
def none {H : Type} : Left H := { results := [], args := [] }

/- WHAT THE LISTED PACKAGE-LEVEL VARIABLES READ AS WHEN THE CALL BEGINS. Each datum BY PROGRAM (the guide's laid-datum.mjs) off the statement by which the dump's own 'gosem.cut.vars' lays the variable. In a bare row this is a premise. The card (YbulkaqwaFmtCards.lean) ties it to the program's text. -/
def laid_encoding_hex_ErrLength {H : Type} : DataW H := .iface "*errors.errorString" (.ptr (.agg [.lit (.string [101, 110, 99, 111, 100, 105, 110, 103, 47, 104, 101, 120, 58, 32, 111, 100, 100, 32, 108, 101, 110, 103, 116, 104, 32, 104, 101, 120, 32, 115, 116, 114, 105, 110, 103])]))
def laid_example_com_sluice_sluice_ErrInvalidAddress {H : Type} : DataW H := .iface "*errors.errorString" (.ptr (.agg [.lit (.string [105, 110, 118, 97, 108, 105, 100, 32, 97, 100, 100, 114, 101, 115, 115])]))
def laid_example_com_sluice_sluice_ErrInvalidParams {H : Type} : DataW H := .iface "*errors.errorString" (.ptr (.agg [.lit (.string [105, 110, 118, 97, 108, 105, 100, 32, 112, 97, 114, 97, 109, 101, 116, 101, 114, 115])]))
def laid_example_com_sluice_sluice_StakingAddress {H : Type} : DataW H := .agg [.lit (.int .u8 4), .lit (.int .u8 194), .lit (.int .u8 42), .lit (.int .u8 250), .lit (.int .u8 230), .lit (.int .u8 160), .lit (.int .u8 52), .lit (.int .u8 56), .lit (.int .u8 184), .lit (.int .u8 254), .lit (.int .u8 215), .lit (.int .u8 76), .lit (.int .u8 177), .lit (.int .u8 207), .lit (.int .u8 68), .lit (.int .u8 17), .lit (.int .u8 104), .lit (.int .u8 223), .lit (.int .u8 63), .lit (.int .u8 18)]

/-- 'sluice.LawS2119ARoundTrip': WHATEVER THE INPUT: true; the input reads as it did. -/
def lawS2119ARoundTripSpec : ChangeSpec := { name := "lawS2119ARoundTrip", vars := ["example.com/sluice/sluice.ErrInvalidAddress"], fn := fun _ => fun
  | [d1, d2, d3, g1] => { results := [.lit (.bool true)], args := [d1, d2, d3], vars := [g1] }
  | _ => none }
def lawS2119ARoundTripRow : OpenClaim := { program := "ybulkaqwafmt", sum := "f723316bc4c6eebd81a765fcfa66521c99191e5b790b9d650db0b37c0db4fd62", func := "example.com/sluice/sluice.LawS2119ARoundTrip", spec := "lawS2119ARoundTrip", stops := ["fmt.errorf, its operands' methods called", "fmt.Sprintf"], inPlace := ["fmt.errorf"], unfollowed := true, recurses := true, named := ["example.com/sluice/sluice.ErrInvalidAddress", "encoding/hex.ErrLength"], ifaces := true, apart := false, laid := [("encoding/hex.ErrLength", laid_encoding_hex_ErrLength), ("example.com/sluice/sluice.ErrInvalidAddress", laid_example_com_sluice_sluice_ErrInvalidAddress)] }
/-- NO THEOREM (fmt's text is open here; it may be false): for the released tool's asking of the row's closed facts alone. THE STATEMENT IS 'LawS2119ARoundTripToldSaid' (YbulkaqwaFmtCards.lean). -/
def LawS2119ARoundTripFormAsk : Prop := lawS2119ARoundTripRow.holds Ybaf.pinned (OpenSpec.ofChange lawS2119ARoundTripSpec)

/-- ITS FALSE NEIGHBOUR: 'it returns false'. Refute it at one input. -/
def lawS2119ARoundTripWrong : ChangeSpec := { name := "lawS2119ARoundTrip", vars := ["example.com/sluice/sluice.ErrInvalidAddress"], fn := fun _ => fun
  | [d1, d2, d3, g1] => { results := [.lit (.bool false)], args := [d1, d2, d3], vars := [g1] }
  | _ => none }
def LawS2119ARoundTripWrongFormAsk : Prop := lawS2119ARoundTripRow.holds Ybaf.pinned (OpenSpec.ofChange lawS2119ARoundTripWrong)

/-- 'sluice.LawS2119BAgree': WHATEVER THE INPUT: true; the input reads as it did. -/
def lawS2119BAgreeSpec : ChangeSpec := { name := "lawS2119BAgree", vars := ["example.com/sluice/sluice.ErrInvalidParams"], fn := fun _ => fun
  | [d1, d2, d3, d4, d5, d6, d7, d8, d9, g1] => { results := [.lit (.bool true)], args := [d1, d2, d3, d4, d5, d6, d7, d8, d9], vars := [g1] }
  | _ => none }
def lawS2119BAgreeRow : OpenClaim := { program := "ybulkaqwafmt", sum := "f723316bc4c6eebd81a765fcfa66521c99191e5b790b9d650db0b37c0db4fd62", func := "example.com/sluice/sluice.LawS2119BAgree", spec := "lawS2119BAgree", stops := ["fmt.errorf, its operands' methods called", "fmt.Sprintf"], inPlace := ["fmt.errorf"], unfollowed := true, recurses := true, named := ["example.com/sluice/sluice.ErrInvalidParams", "encoding/binary.BigEndian"], ifaces := true, apart := false, laid := [("example.com/sluice/sluice.ErrInvalidParams", laid_example_com_sluice_sluice_ErrInvalidParams)] }
/-- NO THEOREM (fmt's text is open here; it may be false): for the released tool's asking of the row's closed facts alone. THE STATEMENT IS 'LawS2119BAgreeToldSaid' (YbulkaqwaFmtCards.lean). -/
def LawS2119BAgreeFormAsk : Prop := lawS2119BAgreeRow.holds Ybaf.pinned (OpenSpec.ofChange lawS2119BAgreeSpec)

/-- ITS FALSE NEIGHBOUR: 'it returns false'. Refute it at one input. -/
def lawS2119BAgreeWrong : ChangeSpec := { name := "lawS2119BAgree", vars := ["example.com/sluice/sluice.ErrInvalidParams"], fn := fun _ => fun
  | [d1, d2, d3, d4, d5, d6, d7, d8, d9, g1] => { results := [.lit (.bool false)], args := [d1, d2, d3, d4, d5, d6, d7, d8, d9], vars := [g1] }
  | _ => none }
def LawS2119BAgreeWrongFormAsk : Prop := lawS2119BAgreeRow.holds Ybaf.pinned (OpenSpec.ofChange lawS2119BAgreeWrong)

/-- 'sluice.LawS2119BWellFormed': WHATEVER THE INPUT: true; the input reads as it did. -/
def lawS2119BWellFormedSpec : ChangeSpec := { name := "lawS2119BWellFormed", vars := ["example.com/sluice/sluice.StakingAddress", "example.com/sluice/sluice.ErrInvalidParams"], fn := fun _ => fun
  | [d1, d2, d3, d4, d5, d6, d7, d8, d9, g1, g2] => { results := [.lit (.bool true)], args := [d1, d2, d3, d4, d5, d6, d7, d8, d9], vars := [g1, g2] }
  | _ => none }
def lawS2119BWellFormedRow : OpenClaim := { program := "ybulkaqwafmt", sum := "f723316bc4c6eebd81a765fcfa66521c99191e5b790b9d650db0b37c0db4fd62", func := "example.com/sluice/sluice.LawS2119BWellFormed", spec := "lawS2119BWellFormed", stops := ["fmt.errorf, its operands' methods called", "fmt.Sprintf"], inPlace := ["fmt.errorf"], unfollowed := true, recurses := true, named := ["encoding/binary.BigEndian", "example.com/sluice/sluice.StakingAddress", "example.com/sluice/sluice.ErrInvalidParams"], ifaces := true, apart := false, laid := [("example.com/sluice/sluice.StakingAddress", laid_example_com_sluice_sluice_StakingAddress), ("example.com/sluice/sluice.ErrInvalidParams", laid_example_com_sluice_sluice_ErrInvalidParams)] }
/-- NO THEOREM (fmt's text is open here; it may be false): for the released tool's asking of the row's closed facts alone. THE STATEMENT IS 'LawS2119BWellFormedToldSaid' (YbulkaqwaFmtCards.lean). -/
def LawS2119BWellFormedFormAsk : Prop := lawS2119BWellFormedRow.holds Ybaf.pinned (OpenSpec.ofChange lawS2119BWellFormedSpec)

/-- ITS FALSE NEIGHBOUR: 'it returns false'. Refute it at one input. -/
def lawS2119BWellFormedWrong : ChangeSpec := { name := "lawS2119BWellFormed", vars := ["example.com/sluice/sluice.StakingAddress", "example.com/sluice/sluice.ErrInvalidParams"], fn := fun _ => fun
  | [d1, d2, d3, d4, d5, d6, d7, d8, d9, g1, g2] => { results := [.lit (.bool false)], args := [d1, d2, d3, d4, d5, d6, d7, d8, d9], vars := [g1, g2] }
  | _ => none }
def LawS2119BWellFormedWrongFormAsk : Prop := lawS2119BWellFormedRow.holds Ybaf.pinned (OpenSpec.ofChange lawS2119BWellFormedWrong)

end Rows
end Go.Proofs.YbulkaqwaFmt
