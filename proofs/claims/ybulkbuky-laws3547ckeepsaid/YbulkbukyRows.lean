/-
  No cell of these rows narrows 'for every input' (looked for: loops, veiled, ifaces, maps, wideKeys, modest, calm, conditions, laid).
  DERIVED. THE GIVEN ROWS OF THIS SEAT. 1 by the template 'for every input the law returns true; each argument reads behind the call as it read before'; 0 by the template 'total and deterministic' (their statements: YbulkbukyTotals.lean).
  GIVEN WITH THE SEED: the statements are not yours to turn. If you find one false, say at which input.
  Laid BY PROGRAM, IN A SANDBOX (cutbox-rows.mjs): the forced cells as the released guide's own fill.sh prints them over the translation b6fea683dc15009a… (all of the seat's roots in one cut). By AI agents, Wed Nov 11 2026. No macro, syntax, notation, axiom, sorry.
-/
import Derived.Test.YbulkbukyChecked
import GoSem.Claim
import GoSem.ClaimJoined
import GoSem.ClaimMapViews
import Derived.JoinedTies
import Derived.KernelRfl
namespace Go.Proofs.Ybulkbuky
/- THE CELL 'sum', in the pinned program and in every row, IS THE sha256 OF THE DUMP (.gsa) THAT YbulkbukyProg.lean LOADS. Nothing in Lean hashes anything: it is a label: what it is worth is what the hold of that sum in a sandbox is worth. -/
noncomputable def Yba.pinned : Pinned := { name := "ybulkbuky", sum := "b6fea683dc15009a9d8e18da9882d49bdf5c2a7f83a52b6dd686362e0a7360b6", checked := Yba.checked }
namespace Rows
def none {H : Type} : Left H := { results := [], args := [] }

/-- 'engine.LawS3547CKeep': WHATEVER THE INPUT: true; the input reads as it did. -/
def lawS3547CKeepSpec : ChangeSpec := { name := "lawS3547CKeep", fn := fun _ => fun
  | [d1, d2, d3] => { results := [.lit (.bool true)], args := [d1, d2, d3] }
  | _ => none }
def lawS3547CKeepRow : OpenClaim := { program := "ybulkbuky", sum := "b6fea683dc15009a9d8e18da9882d49bdf5c2a7f83a52b6dd686362e0a7360b6", func := "example.com/chainview/chainview/engine.LawS3547CKeep", spec := "lawS3547CKeep", apart := false }
def LawS3547CKeepSaid : Prop := lawS3547CKeepRow.holds Yba.pinned (OpenSpec.ofChange lawS3547CKeepSpec)

/-- ITS FALSE NEIGHBOUR: 'it returns false'. Refute it at one input. -/
def lawS3547CKeepWrong : ChangeSpec := { name := "lawS3547CKeep", fn := fun _ => fun
  | [d1, d2, d3] => { results := [.lit (.bool false)], args := [d1, d2, d3] }
  | _ => none }
def LawS3547CKeepWrongFalsely : Prop := lawS3547CKeepRow.holds Yba.pinned (OpenSpec.ofChange lawS3547CKeepWrong)

end Rows
end Go.Proofs.Ybulkbuky
