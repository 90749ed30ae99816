/-
  No cell of these rows narrows 'for every input' (looked for: loops, veiled, ifaces, maps, wideKeys, modest, calm, conditions, laid).
  DERIVED. THE GIVEN ROWS OF THIS SEAT. 4 by the template 'for every input the law returns true; each argument reads behind the call as it read before'; 0 by the template 'total and deterministic' (their statements: YbulkbujwFmtTotals.lean).
  GIVEN WITH THE SEED: the statements are not yours to turn. If you find one false, say at which input.
  Laid BY PROGRAM, IN A SANDBOX (cutbox-rows.mjs): the forced cells as the released guide's own fill.sh prints them over the translation e4f2e6704d11f45c… (all of the seat's roots in one cut). By AI agents, Wed Nov 11 2026. No macro, syntax, notation, axiom, sorry.
-/
import Derived.Test.YbulkbujwFmtChecked
import GoSem.Claim
import GoSem.ClaimJoined
import GoSem.ClaimMapViews
import Derived.JoinedTies
import Derived.KernelRfl
namespace Go.Proofs.YbulkbujwFmt
/- THE CELL 'sum', in the pinned program and in every row, IS THE sha256 OF THE DUMP (.gsa) THAT YbulkbujwFmtProg.lean LOADS. Nothing in Lean hashes anything: it is a label: what it is worth is what the hold of that sum in a sandbox is worth. -/
noncomputable def Ybaf.pinned : Pinned := { name := "ybulkbujwfmt", sum := "e4f2e6704d11f45c59f798ead8ddc3a0192c581e0c3bc229e66824fd64460303", checked := Ybaf.checked }
namespace Rows
def none {H : Type} : Left H := { results := [], args := [] }

/-- 'handshake.LawS3545AExact': WHATEVER THE INPUT: true; the input reads as it did. -/
def lawS3545AExactSpec : ChangeSpec := { name := "lawS3545AExact", fn := fun _ => fun
  | [d1, d2] => { results := [.lit (.bool true)], args := [d1, d2] }
  | _ => none }
def lawS3545AExactRow : OpenClaim := { program := "ybulkbujwfmt", sum := "e4f2e6704d11f45c59f798ead8ddc3a0192c581e0c3bc229e66824fd64460303", func := "example.com/halyard/halyard/internal/handshake.LawS3545AExact", spec := "lawS3545AExact", stops := ["fmt.Sprintf, its operands' methods called", "fmt.errorf, its operands' methods called"], inPlace := ["fmt.errorf"], unfollowed := true, recurses := true, apart := false }
/-- NO THEOREM (fmt's text is open here; it may be false): for the released tool's asking of the row's closed facts alone. THE STATEMENT IS 'LawS3545AExactToldSaid' (YbulkbujwFmtCards.lean). -/
def LawS3545AExactFormAsk : Prop := lawS3545AExactRow.holds Ybaf.pinned (OpenSpec.ofChange lawS3545AExactSpec)

/-- ITS FALSE NEIGHBOUR: 'it returns false'. Refute it at one input. -/
def lawS3545AExactWrong : ChangeSpec := { name := "lawS3545AExact", fn := fun _ => fun
  | [d1, d2] => { results := [.lit (.bool false)], args := [d1, d2] }
  | _ => none }
def LawS3545AExactWrongFormAsk : Prop := lawS3545AExactRow.holds Ybaf.pinned (OpenSpec.ofChange lawS3545AExactWrong)

/-- 'handshake.LawS3545ABoundary': WHATEVER THE INPUT: true; the input reads as it did. -/
def lawS3545ABoundarySpec : ChangeSpec := { name := "lawS3545ABoundary", fn := fun _ => fun
  | [d1, d2, d3] => { results := [.lit (.bool true)], args := [d1, d2, d3] }
  | _ => none }
def lawS3545ABoundaryRow : OpenClaim := { program := "ybulkbujwfmt", sum := "e4f2e6704d11f45c59f798ead8ddc3a0192c581e0c3bc229e66824fd64460303", func := "example.com/halyard/halyard/internal/handshake.LawS3545ABoundary", spec := "lawS3545ABoundary", stops := ["fmt.Sprintf, its operands' methods called", "fmt.errorf, its operands' methods called"], inPlace := ["fmt.errorf"], unfollowed := true, recurses := true, apart := false }
/-- NO THEOREM (fmt's text is open here; it may be false): for the released tool's asking of the row's closed facts alone. THE STATEMENT IS 'LawS3545ABoundaryToldSaid' (YbulkbujwFmtCards.lean). -/
def LawS3545ABoundaryFormAsk : Prop := lawS3545ABoundaryRow.holds Ybaf.pinned (OpenSpec.ofChange lawS3545ABoundarySpec)

/-- ITS FALSE NEIGHBOUR: 'it returns false'. Refute it at one input. -/
def lawS3545ABoundaryWrong : ChangeSpec := { name := "lawS3545ABoundary", fn := fun _ => fun
  | [d1, d2, d3] => { results := [.lit (.bool false)], args := [d1, d2, d3] }
  | _ => none }
def LawS3545ABoundaryWrongFormAsk : Prop := lawS3545ABoundaryRow.holds Ybaf.pinned (OpenSpec.ofChange lawS3545ABoundaryWrong)

/-- 'handshake.LawS3545ARoundTrip': WHATEVER THE INPUT: true; the input reads as it did. -/
def lawS3545ARoundTripSpec : ChangeSpec := { name := "lawS3545ARoundTrip", fn := fun _ => fun
  | [d1, d2] => { results := [.lit (.bool true)], args := [d1, d2] }
  | _ => none }
def lawS3545ARoundTripRow : OpenClaim := { program := "ybulkbujwfmt", sum := "e4f2e6704d11f45c59f798ead8ddc3a0192c581e0c3bc229e66824fd64460303", func := "example.com/halyard/halyard/internal/handshake.LawS3545ARoundTrip", spec := "lawS3545ARoundTrip", stops := ["fmt.Sprintf, its operands' methods called", "fmt.errorf, its operands' methods called"], inPlace := ["fmt.errorf", "fmt.Sprintf"], unfollowed := true, recurses := true, apart := false }
/-- NO THEOREM (fmt's text is open here; it may be false): for the released tool's asking of the row's closed facts alone. THE STATEMENT IS 'LawS3545ARoundTripToldSaid' (YbulkbujwFmtCards.lean). -/
def LawS3545ARoundTripFormAsk : Prop := lawS3545ARoundTripRow.holds Ybaf.pinned (OpenSpec.ofChange lawS3545ARoundTripSpec)

/-- ITS FALSE NEIGHBOUR: 'it returns false'. Refute it at one input. -/
def lawS3545ARoundTripWrong : ChangeSpec := { name := "lawS3545ARoundTrip", fn := fun _ => fun
  | [d1, d2] => { results := [.lit (.bool false)], args := [d1, d2] }
  | _ => none }
def LawS3545ARoundTripWrongFormAsk : Prop := lawS3545ARoundTripRow.holds Ybaf.pinned (OpenSpec.ofChange lawS3545ARoundTripWrong)

/-- 'halyard.LawS3545CModel': WHATEVER THE INPUT: true; the input reads as it did. -/
def lawS3545CModelSpec : ChangeSpec := { name := "lawS3545CModel", fn := fun _ => fun
  | [d1, d2, d3, d4] => { results := [.lit (.bool true)], args := [d1, d2, d3, d4] }
  | _ => none }
def lawS3545CModelRow : OpenClaim := { program := "ybulkbujwfmt", sum := "e4f2e6704d11f45c59f798ead8ddc3a0192c581e0c3bc229e66824fd64460303", func := "example.com/halyard/halyard.LawS3545CModel", spec := "lawS3545CModel", stops := ["fmt.Sprintf, its operands' methods called", "fmt.errorf, its operands' methods called"], inPlace := ["fmt.errorf"], unfollowed := true, recurses := true, apart := false }
/-- NO THEOREM (fmt's text is open here; it may be false): for the released tool's asking of the row's closed facts alone. THE STATEMENT IS 'LawS3545CModelToldSaid' (YbulkbujwFmtCards.lean). -/
def LawS3545CModelFormAsk : Prop := lawS3545CModelRow.holds Ybaf.pinned (OpenSpec.ofChange lawS3545CModelSpec)

/-- ITS FALSE NEIGHBOUR: 'it returns false'. Refute it at one input. -/
def lawS3545CModelWrong : ChangeSpec := { name := "lawS3545CModel", fn := fun _ => fun
  | [d1, d2, d3, d4] => { results := [.lit (.bool false)], args := [d1, d2, d3, d4] }
  | _ => none }
def LawS3545CModelWrongFormAsk : Prop := lawS3545CModelRow.holds Ybaf.pinned (OpenSpec.ofChange lawS3545CModelWrong)

end Rows
end Go.Proofs.YbulkbujwFmt
