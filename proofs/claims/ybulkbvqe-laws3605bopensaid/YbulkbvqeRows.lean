/-
  No cell of these rows narrows 'for every input' (looked for: loops, veiled, ifaces, maps, wideKeys, modest, calm, conditions, laid).
  DERIVED. THE GIVEN ROWS OF THIS SEAT. 2 by the template 'for every input the law returns true; each argument reads behind the call as it read before'; 0 by the template 'total and deterministic' (their statements: YbulkbvqeTotals.lean).
  GIVEN WITH THE SEED: the statements are not yours to turn. If you find one false, say at which input.
  Laid BY PROGRAM, IN A SANDBOX (cutbox-rows.mjs): the forced cells as the released guide's own fill.sh prints them over the translation 126644e78b28e018… (all of the seat's roots in one cut). By AI agents, Wed Nov 11 2026. No macro, syntax, notation, axiom, sorry.
-/
import Derived.Test.YbulkbvqeChecked
import GoSem.Claim
import GoSem.ClaimJoined
import GoSem.ClaimMapViews
import Derived.JoinedTies
import Derived.KernelRfl
namespace Go.Proofs.Ybulkbvqe
/- THE CELL 'sum', in the pinned program and in every row, IS THE sha256 OF THE DUMP (.gsa) THAT YbulkbvqeProg.lean LOADS. Nothing in Lean hashes anything: it is a label: what it is worth is what the hold of that sum in a sandbox is worth. -/
noncomputable def Yba.pinned : Pinned := { name := "ybulkbvqe", sum := "126644e78b28e0180666cdb39537134c2c4eaa4c0e38e2d2a394d912a6b3cc92", checked := Yba.checked }
namespace Rows
def none {H : Type} : Left H := { results := [], args := [] }

/-- 'explore.LawS3605BClosed': WHATEVER THE INPUT: true; the input reads as it did. -/
def lawS3605BClosedSpec : ChangeSpec := { name := "lawS3605BClosed", fn := fun _ => fun
  | [d1, d2] => { results := [.lit (.bool true)], args := [d1, d2] }
  | _ => none }
def lawS3605BClosedRow : OpenClaim := { program := "ybulkbvqe", sum := "126644e78b28e0180666cdb39537134c2c4eaa4c0e38e2d2a394d912a6b3cc92", func := "example.com/holdfast/holdfast/internal/explore.LawS3605BClosed", spec := "lawS3605BClosed", unfollowed := true, recurses := true, apart := false }
def LawS3605BClosedSaid : Prop := lawS3605BClosedRow.holds Yba.pinned (OpenSpec.ofChange lawS3605BClosedSpec)

/-- ITS FALSE NEIGHBOUR: 'it returns false'. Refute it at one input. -/
def lawS3605BClosedWrong : ChangeSpec := { name := "lawS3605BClosed", fn := fun _ => fun
  | [d1, d2] => { results := [.lit (.bool false)], args := [d1, d2] }
  | _ => none }
def LawS3605BClosedWrongFalsely : Prop := lawS3605BClosedRow.holds Yba.pinned (OpenSpec.ofChange lawS3605BClosedWrong)

/-- 'explore.LawS3605BOpen': WHATEVER THE INPUT: true; the input reads as it did. -/
def lawS3605BOpenSpec : ChangeSpec := { name := "lawS3605BOpen", fn := fun _ => fun
  | [d1, d2] => { results := [.lit (.bool true)], args := [d1, d2] }
  | _ => none }
def lawS3605BOpenRow : OpenClaim := { program := "ybulkbvqe", sum := "126644e78b28e0180666cdb39537134c2c4eaa4c0e38e2d2a394d912a6b3cc92", func := "example.com/holdfast/holdfast/internal/explore.LawS3605BOpen", spec := "lawS3605BOpen", unfollowed := true, recurses := true, apart := false }
def LawS3605BOpenSaid : Prop := lawS3605BOpenRow.holds Yba.pinned (OpenSpec.ofChange lawS3605BOpenSpec)

/-- ITS FALSE NEIGHBOUR: 'it returns false'. Refute it at one input. -/
def lawS3605BOpenWrong : ChangeSpec := { name := "lawS3605BOpen", fn := fun _ => fun
  | [d1, d2] => { results := [.lit (.bool false)], args := [d1, d2] }
  | _ => none }
def LawS3605BOpenWrongFalsely : Prop := lawS3605BOpenRow.holds Yba.pinned (OpenSpec.ofChange lawS3605BOpenWrong)

end Rows
end Go.Proofs.Ybulkbvqe
