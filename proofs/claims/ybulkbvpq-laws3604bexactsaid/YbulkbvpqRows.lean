/-
  No cell of these rows narrows 'for every input' (looked for: loops, veiled, ifaces, maps, wideKeys, modest, calm, conditions, laid).
  DERIVED. THE GIVEN ROWS OF THIS SEAT. 1 by the template 'for every input the law returns true; each argument reads behind the call as it read before'; 0 by the template 'total and deterministic' (their statements: YbulkbvpqTotals.lean).
  GIVEN WITH THE SEED: the statements are not yours to turn. If you find one false, say at which input.
  Laid BY PROGRAM, IN A SANDBOX (cutbox-rows.mjs): the forced cells as the released guide's own fill.sh prints them over the translation 6e8a0446bb2d20da… (all of the seat's roots in one cut). By AI agents, Wed Nov 11 2026. No macro, syntax, notation, axiom, sorry.
-/
import Derived.Test.YbulkbvpqChecked
import GoSem.Claim
import GoSem.ClaimJoined
import GoSem.ClaimMapViews
import Derived.JoinedTies
import Derived.KernelRfl
namespace Go.Proofs.Ybulkbvpq
/- THE CELL 'sum', in the pinned program and in every row, IS THE sha256 OF THE DUMP (.gsa) THAT YbulkbvpqProg.lean LOADS. Nothing in Lean hashes anything: it is a label: what it is worth is what the hold of that sum in a sandbox is worth. -/
noncomputable def Yba.pinned : Pinned := { name := "ybulkbvpq", sum := "6e8a0446bb2d20dabd9e480678f24c6e6f11b18076cb6b67053dabfbf6b76a0e", checked := Yba.checked }
namespace Rows
def none {H : Type} : Left H := { results := [], args := [] }

/-- 'dnsmsg.LawS3604BExact': WHATEVER THE INPUT: true; the input reads as it did. -/
def lawS3604BExactSpec : ChangeSpec := { name := "lawS3604BExact", fn := fun _ => fun
  | [d1, d2, d3] => { results := [.lit (.bool true)], args := [d1, d2, d3] }
  | _ => none }
def lawS3604BExactRow : OpenClaim := { program := "ybulkbvpq", sum := "6e8a0446bb2d20dabd9e480678f24c6e6f11b18076cb6b67053dabfbf6b76a0e", func := "example.com/namelease/namelease/dnsmsg.LawS3604BExact", spec := "lawS3604BExact", named := ["encoding/binary.BigEndian"], apart := false }
def LawS3604BExactSaid : Prop := lawS3604BExactRow.holds Yba.pinned (OpenSpec.ofChange lawS3604BExactSpec)

/-- ITS FALSE NEIGHBOUR: 'it returns false'. Refute it at one input. -/
def lawS3604BExactWrong : ChangeSpec := { name := "lawS3604BExact", fn := fun _ => fun
  | [d1, d2, d3] => { results := [.lit (.bool false)], args := [d1, d2, d3] }
  | _ => none }
def LawS3604BExactWrongFalsely : Prop := lawS3604BExactRow.holds Yba.pinned (OpenSpec.ofChange lawS3604BExactWrong)

end Rows
end Go.Proofs.Ybulkbvpq
