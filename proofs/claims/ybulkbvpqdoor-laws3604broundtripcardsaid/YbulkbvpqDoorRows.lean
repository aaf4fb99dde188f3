/-
  NARROWER THAN 'FOR EVERY INPUT', by the rows' own cells (each row's printed sentence says how): LawS3604BRoundTrip: ifaces, laid.
  DERIVED. THE GIVEN ROWS OF THIS SEAT. 1 by the template 'for every input the law returns true; each argument reads behind the call as it read before'; 0 by the template 'total and deterministic' (their statements: YbulkbvpqDoorTotals.lean).
  GIVEN WITH THE SEED: the statements are not yours to turn. If you find one false, say at which input.
  Laid BY PROGRAM, IN A SANDBOX (cutbox-rows.mjs): the forced cells as the released guide's own fill.sh prints them over the translation e35c4ba63a735471… (all of the seat's roots in one cut). By AI agents, Wed Nov 11 2026. No macro, syntax, notation, axiom, sorry.
-/
import Derived.Test.YbulkbvpqDoorChecked
import GoSem.Claim
import GoSem.ClaimJoined
import GoSem.ClaimMapViews
import Derived.JoinedTies
import Derived.KernelRfl
namespace Go.Proofs.YbulkbvpqDoor
/- THE CELL 'sum', in the pinned program and in every row, IS THE sha256 OF THE DUMP (.gsa) THAT YbulkbvpqDoorProg.lean LOADS. Nothing in Lean hashes anything: it is a label: what it is worth is what the hold of that sum in a sandbox is worth. -/
noncomputable def Ybad.pinned : Pinned := { name := "ybulkbvpqdoor", sum := "e35c4ba63a7354711f12410a33d4c672c7f4459c795d9b01371ad3b4c915491d", checked := Ybad.checked }
namespace Rows
def none {H : Type} : Left H := { results := [], args := [] }

/- WHAT THE LISTED PACKAGE-LEVEL VARIABLES READ AS WHEN THE CALL BEGINS. Each datum BY PROGRAM (the guide's laid-datum.mjs) off the statement by which the dump's own 'gosem.cut.vars' lays the variable. In a bare row this is a premise. The card (YbulkbvpqDoorCards.lean) ties it to the program's text. -/
def laid_example_com_namelease_namelease_dnsmsg_errMalformed {H : Type} : DataW H := .iface "*errors.errorString" (.ptr (.agg [.lit (.string [109, 97, 108, 102, 111, 114, 109, 101, 100, 32, 109, 101, 115, 115, 97, 103, 101])]))

/-- 'dnsmsg.LawS3604BRoundTrip': WHATEVER THE INPUT: true; the input reads as it did. -/
def lawS3604BRoundTripSpec : ChangeSpec := { name := "lawS3604BRoundTrip", vars := ["example.com/namelease/namelease/dnsmsg.errMalformed"], fn := fun _ => fun
  | [d1, d2, d3, d4, g1] => { results := [.lit (.bool true)], args := [d1, d2, d3, d4], vars := [g1] }
  | _ => none }
def lawS3604BRoundTripRow : OpenClaim := { program := "ybulkbvpqdoor", sum := "e35c4ba63a7354711f12410a33d4c672c7f4459c795d9b01371ad3b4c915491d", func := "example.com/namelease/namelease/dnsmsg.LawS3604BRoundTrip", spec := "lawS3604BRoundTrip", named := ["encoding/binary.BigEndian", "example.com/namelease/namelease/dnsmsg.errMalformed"], ifaces := true, apart := false, laid := [("example.com/namelease/namelease/dnsmsg.errMalformed", laid_example_com_namelease_namelease_dnsmsg_errMalformed)] }
def LawS3604BRoundTripSaid : Prop := lawS3604BRoundTripRow.holds Ybad.pinned (OpenSpec.ofChange lawS3604BRoundTripSpec)

/-- ITS FALSE NEIGHBOUR: 'it returns false'. Refute it at one input. -/
def lawS3604BRoundTripWrong : ChangeSpec := { name := "lawS3604BRoundTrip", vars := ["example.com/namelease/namelease/dnsmsg.errMalformed"], fn := fun _ => fun
  | [d1, d2, d3, d4, g1] => { results := [.lit (.bool false)], args := [d1, d2, d3, d4], vars := [g1] }
  | _ => none }
def LawS3604BRoundTripWrongFalsely : Prop := lawS3604BRoundTripRow.holds Ybad.pinned (OpenSpec.ofChange lawS3604BRoundTripWrong)

end Rows
end Go.Proofs.YbulkbvpqDoor
