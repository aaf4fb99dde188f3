/-
  No cell of these rows narrows 'for every input' (looked for: loops, veiled, ifaces, maps, wideKeys, modest, calm, conditions, laid).
  DERIVED. THE GIVEN ROWS OF THIS SEAT. 4 by the template 'for every input the law returns true; each argument reads behind the call as it read before'; 0 by the template 'total and deterministic' (their statements: YbulkbvsiTotals.lean).
  GIVEN WITH THE SEED: the statements are not yours to turn. If you find one false, say at which input.
  Laid BY PROGRAM, IN A SANDBOX (cutbox-rows.mjs): the forced cells as the released guide's own fill.sh prints them over the translation 4c9a2aaa9bfe6d9b… (all of the seat's roots in one cut). By AI agents, Wed Nov 11 2026. No macro, syntax, notation, axiom, sorry.
-/
import Derived.Test.YbulkbvsiChecked
import GoSem.Claim
import GoSem.ClaimJoined
import GoSem.ClaimMapViews
import Derived.JoinedTies
import Derived.KernelRfl
namespace Go.Proofs.Ybulkbvsi
/- THE CELL 'sum', in the pinned program and in every row, IS THE sha256 OF THE DUMP (.gsa) THAT YbulkbvsiProg.lean LOADS. Nothing in Lean hashes anything: it is a label: what it is worth is what the hold of that sum in a sandbox is worth. -/
noncomputable def Yba.pinned : Pinned := { name := "ybulkbvsi", sum := "4c9a2aaa9bfe6d9bcd9efc1734ab3c882fa7e3acac672b1bb1239b7802797c44", checked := Yba.checked }
namespace Rows
def none {H : Type} : Left H := { results := [], args := [] }

/-- 'countersign.LawS3609AModel': WHATEVER THE INPUT: true; the input reads as it did. -/
def lawS3609AModelSpec : ChangeSpec := { name := "lawS3609AModel", fn := fun _ => fun
  | [d1, d2, d3, d4] => { results := [.lit (.bool true)], args := [d1, d2, d3, d4] }
  | _ => none }
def lawS3609AModelRow : OpenClaim := { program := "ybulkbvsi", sum := "4c9a2aaa9bfe6d9bcd9efc1734ab3c882fa7e3acac672b1bb1239b7802797c44", func := "example.com/countersign/countersign.LawS3609AModel", spec := "lawS3609AModel", apart := false }
def LawS3609AModelSaid : Prop := lawS3609AModelRow.holds Yba.pinned (OpenSpec.ofChange lawS3609AModelSpec)

/-- ITS FALSE NEIGHBOUR: 'it returns false'. Refute it at one input. -/
def lawS3609AModelWrong : ChangeSpec := { name := "lawS3609AModel", fn := fun _ => fun
  | [d1, d2, d3, d4] => { results := [.lit (.bool false)], args := [d1, d2, d3, d4] }
  | _ => none }
def LawS3609AModelWrongFalsely : Prop := lawS3609AModelRow.holds Yba.pinned (OpenSpec.ofChange lawS3609AModelWrong)

/-- 'countersign.LawS3609AUnion': WHATEVER THE INPUT: true; the input reads as it did. -/
def lawS3609AUnionSpec : ChangeSpec := { name := "lawS3609AUnion", fn := fun _ => fun
  | [d1, d2, d3, d4, d5, d6] => { results := [.lit (.bool true)], args := [d1, d2, d3, d4, d5, d6] }
  | _ => none }
def lawS3609AUnionRow : OpenClaim := { program := "ybulkbvsi", sum := "4c9a2aaa9bfe6d9bcd9efc1734ab3c882fa7e3acac672b1bb1239b7802797c44", func := "example.com/countersign/countersign.LawS3609AUnion", spec := "lawS3609AUnion", apart := false }
def LawS3609AUnionSaid : Prop := lawS3609AUnionRow.holds Yba.pinned (OpenSpec.ofChange lawS3609AUnionSpec)

/-- ITS FALSE NEIGHBOUR: 'it returns false'. Refute it at one input. -/
def lawS3609AUnionWrong : ChangeSpec := { name := "lawS3609AUnion", fn := fun _ => fun
  | [d1, d2, d3, d4, d5, d6] => { results := [.lit (.bool false)], args := [d1, d2, d3, d4, d5, d6] }
  | _ => none }
def LawS3609AUnionWrongFalsely : Prop := lawS3609AUnionRow.holds Yba.pinned (OpenSpec.ofChange lawS3609AUnionWrong)

/-- 'countersign.LawS3609BModel': WHATEVER THE INPUT: true; the input reads as it did. -/
def lawS3609BModelSpec : ChangeSpec := { name := "lawS3609BModel", fn := fun _ => fun
  | [d1, d2] => { results := [.lit (.bool true)], args := [d1, d2] }
  | _ => none }
def lawS3609BModelRow : OpenClaim := { program := "ybulkbvsi", sum := "4c9a2aaa9bfe6d9bcd9efc1734ab3c882fa7e3acac672b1bb1239b7802797c44", func := "example.com/countersign/countersign.LawS3609BModel", spec := "lawS3609BModel", inPlace := ["internal/bytealg.IndexByteString", "internal/abi.NoEscape"], apart := false }
def LawS3609BModelSaid : Prop := lawS3609BModelRow.holds Yba.pinned (OpenSpec.ofChange lawS3609BModelSpec)

/-- ITS FALSE NEIGHBOUR: 'it returns false'. Refute it at one input. -/
def lawS3609BModelWrong : ChangeSpec := { name := "lawS3609BModel", fn := fun _ => fun
  | [d1, d2] => { results := [.lit (.bool false)], args := [d1, d2] }
  | _ => none }
def LawS3609BModelWrongFalsely : Prop := lawS3609BModelRow.holds Yba.pinned (OpenSpec.ofChange lawS3609BModelWrong)

/-- 'countersign.LawS3609BRoundTrip': WHATEVER THE INPUT: true; the input reads as it did. -/
def lawS3609BRoundTripSpec : ChangeSpec := { name := "lawS3609BRoundTrip", fn := fun _ => fun
  | [d1, d2] => { results := [.lit (.bool true)], args := [d1, d2] }
  | _ => none }
def lawS3609BRoundTripRow : OpenClaim := { program := "ybulkbvsi", sum := "4c9a2aaa9bfe6d9bcd9efc1734ab3c882fa7e3acac672b1bb1239b7802797c44", func := "example.com/countersign/countersign.LawS3609BRoundTrip", spec := "lawS3609BRoundTrip", inPlace := ["internal/bytealg.IndexByteString", "internal/abi.NoEscape"], apart := false }
def LawS3609BRoundTripSaid : Prop := lawS3609BRoundTripRow.holds Yba.pinned (OpenSpec.ofChange lawS3609BRoundTripSpec)

/-- ITS FALSE NEIGHBOUR: 'it returns false'. Refute it at one input. -/
def lawS3609BRoundTripWrong : ChangeSpec := { name := "lawS3609BRoundTrip", fn := fun _ => fun
  | [d1, d2] => { results := [.lit (.bool false)], args := [d1, d2] }
  | _ => none }
def LawS3609BRoundTripWrongFalsely : Prop := lawS3609BRoundTripRow.holds Yba.pinned (OpenSpec.ofChange lawS3609BRoundTripWrong)

end Rows
end Go.Proofs.Ybulkbvsi
