/-
  No cell of these rows narrows 'for every input' (looked for: loops, veiled, ifaces, maps, wideKeys, modest, calm, conditions, laid).
  DERIVED. THE GIVEN ROWS OF THIS SEAT. 1 by the template 'for every input the law returns true; each argument reads behind the call as it read before'; 0 by the template 'total and deterministic' (their statements: YbulkburkGreatTotals.lean).
  GIVEN WITH THE SEED: the statements are not yours to turn. If you find one false, say at which input.
  Laid BY PROGRAM, IN A SANDBOX (cutbox-rows.mjs): the forced cells as the released guide's own fill.sh prints them over the translation cc3d9a7f58f40450… (all of the seat's roots in one cut). By AI agents, Wed Nov 11 2026. No macro, syntax, notation, axiom, sorry.
-/
import Derived.Test.YbulkburkGreatChecked
import GoSem.Claim
import GoSem.ClaimJoined
import GoSem.ClaimMapViews
import Derived.JoinedTies
import Derived.KernelRfl
namespace Go.Proofs.YbulkburkGreat
/- THE CELL 'sum', in the pinned program and in every row, IS THE sha256 OF THE DUMP (.gsa) THAT YbulkburkGreatProg.lean LOADS. Nothing in Lean hashes anything: it is a label: what it is worth is what the hold of that sum in a sandbox is worth. -/
noncomputable def Ybaz.pinned : Pinned := { name := "ybulkburkgreat", sum := "cc3d9a7f58f40450d9331a416aa12b4717a30c76df1f7d7cce313fefc16e31bc", checked := Ybaz.checked }
namespace Rows
def none {H : Type} : Left H := { results := [], args := [] }

/-- 'certwell.LawS3559ATimeout': WHATEVER THE INPUT: true; the input reads as it did. -/
def lawS3559ATimeoutSpec : ChangeSpec := { name := "lawS3559ATimeout", fn := fun _ => fun
  | [d1, d2, d3] => { results := [.lit (.bool true)], args := [d1, d2, d3] }
  | _ => none }
def lawS3559ATimeoutRow : OpenClaim := { program := "ybulkburkgreat", sum := "cc3d9a7f58f40450d9331a416aa12b4717a30c76df1f7d7cce313fefc16e31bc", func := "example.com/certwell/certwell.LawS3559ATimeout", spec := "lawS3559ATimeout", plainKeys := false, apart := false }
def LawS3559ATimeoutSaid : Prop := lawS3559ATimeoutRow.holds Ybaz.pinned (OpenSpec.ofChange lawS3559ATimeoutSpec)

/-- ITS FALSE NEIGHBOUR: 'it returns false'. Refute it at one input. -/
def lawS3559ATimeoutWrong : ChangeSpec := { name := "lawS3559ATimeout", fn := fun _ => fun
  | [d1, d2, d3] => { results := [.lit (.bool false)], args := [d1, d2, d3] }
  | _ => none }
def LawS3559ATimeoutWrongFalsely : Prop := lawS3559ATimeoutRow.holds Ybaz.pinned (OpenSpec.ofChange lawS3559ATimeoutWrong)

end Rows
end Go.Proofs.YbulkburkGreat
