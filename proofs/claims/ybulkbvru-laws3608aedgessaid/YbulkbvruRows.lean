/-
  No cell of these rows narrows 'for every input' (looked for: loops, veiled, ifaces, maps, wideKeys, modest, calm, conditions, laid).
  DERIVED. THE GIVEN ROWS OF THIS SEAT. 2 by the template 'for every input the law returns true; each argument reads behind the call as it read before'; 0 by the template 'total and deterministic' (their statements: YbulkbvruTotals.lean).
  GIVEN WITH THE SEED: the statements are not yours to turn. If you find one false, say at which input.
  Laid BY PROGRAM, IN A SANDBOX (cutbox-rows.mjs): the forced cells as the released guide's own fill.sh prints them over the translation d178d2309dfd34c1… (all of the seat's roots in one cut). By AI agents, Wed Nov 11 2026. No macro, syntax, notation, axiom, sorry.
-/
import Derived.Test.YbulkbvruChecked
import GoSem.Claim
import GoSem.ClaimJoined
import GoSem.ClaimMapViews
import Derived.JoinedTies
import Derived.KernelRfl
namespace Go.Proofs.Ybulkbvru
/- THE CELL 'sum', in the pinned program and in every row, IS THE sha256 OF THE DUMP (.gsa) THAT YbulkbvruProg.lean LOADS. Nothing in Lean hashes anything: it is a label: what it is worth is what the hold of that sum in a sandbox is worth. -/
noncomputable def Yba.pinned : Pinned := { name := "ybulkbvru", sum := "d178d2309dfd34c1c2af6965deecf8aaa666941a6e9c54d739a6bb5c7502ff45", checked := Yba.checked }
namespace Rows
def none {H : Type} : Left H := { results := [], args := [] }

/-- 'rule.LawS3608AModel': WHATEVER THE INPUT: true; the input reads as it did. -/
def lawS3608AModelSpec : ChangeSpec := { name := "lawS3608AModel", fn := fun _ => fun
  | [d1, d2, d3] => { results := [.lit (.bool true)], args := [d1, d2, d3] }
  | _ => none }
def lawS3608AModelRow : OpenClaim := { program := "ybulkbvru", sum := "d178d2309dfd34c1c2af6965deecf8aaa666941a6e9c54d739a6bb5c7502ff45", func := "example.com/fwdiag/fwdiag/pkg/rule.LawS3608AModel", spec := "lawS3608AModel", unfollowed := true, recurses := true, apart := false }
def LawS3608AModelSaid : Prop := lawS3608AModelRow.holds Yba.pinned (OpenSpec.ofChange lawS3608AModelSpec)

/-- ITS FALSE NEIGHBOUR: 'it returns false'. Refute it at one input. -/
def lawS3608AModelWrong : ChangeSpec := { name := "lawS3608AModel", fn := fun _ => fun
  | [d1, d2, d3] => { results := [.lit (.bool false)], args := [d1, d2, d3] }
  | _ => none }
def LawS3608AModelWrongFalsely : Prop := lawS3608AModelRow.holds Yba.pinned (OpenSpec.ofChange lawS3608AModelWrong)

/-- 'rule.LawS3608AEdges': WHATEVER THE INPUT: true; the input reads as it did. -/
def lawS3608AEdgesSpec : ChangeSpec := { name := "lawS3608AEdges", fn := fun _ => fun
  | [d1, d2] => { results := [.lit (.bool true)], args := [d1, d2] }
  | _ => none }
def lawS3608AEdgesRow : OpenClaim := { program := "ybulkbvru", sum := "d178d2309dfd34c1c2af6965deecf8aaa666941a6e9c54d739a6bb5c7502ff45", func := "example.com/fwdiag/fwdiag/pkg/rule.LawS3608AEdges", spec := "lawS3608AEdges", unfollowed := true, recurses := true, apart := false }
def LawS3608AEdgesSaid : Prop := lawS3608AEdgesRow.holds Yba.pinned (OpenSpec.ofChange lawS3608AEdgesSpec)

/-- ITS FALSE NEIGHBOUR: 'it returns false'. Refute it at one input. -/
def lawS3608AEdgesWrong : ChangeSpec := { name := "lawS3608AEdges", fn := fun _ => fun
  | [d1, d2] => { results := [.lit (.bool false)], args := [d1, d2] }
  | _ => none }
def LawS3608AEdgesWrongFalsely : Prop := lawS3608AEdgesRow.holds Yba.pinned (OpenSpec.ofChange lawS3608AEdgesWrong)

end Rows
end Go.Proofs.Ybulkbvru
