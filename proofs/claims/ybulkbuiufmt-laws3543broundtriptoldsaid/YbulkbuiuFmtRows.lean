/-
  No cell of these rows narrows 'for every input' (looked for: loops, veiled, ifaces, maps, wideKeys, modest, calm, conditions, laid).
  DERIVED. THE GIVEN ROWS OF THIS SEAT. 2 by the template 'for every input the law returns true; each argument reads behind the call as it read before'; 0 by the template 'total and deterministic' (their statements: YbulkbuiuFmtTotals.lean).
  GIVEN WITH THE SEED: the statements are not yours to turn. If you find one false, say at which input.
  Laid BY PROGRAM, IN A SANDBOX (cutbox-rows.mjs): the forced cells as the released guide's own fill.sh prints them over the translation fcdea8d1a12b5934… (all of the seat's roots in one cut). By AI agents, Wed Nov 11 2026. No macro, syntax, notation, axiom, sorry.
-/
import Derived.Test.YbulkbuiuFmtChecked
import GoSem.Claim
import GoSem.ClaimJoined
import GoSem.ClaimMapViews
import Derived.JoinedTies
import Derived.KernelRfl
namespace Go.Proofs.YbulkbuiuFmt
/- THE CELL 'sum', in the pinned program and in every row, IS THE sha256 OF THE DUMP (.gsa) THAT YbulkbuiuFmtProg.lean LOADS. Nothing in Lean hashes anything: it is a label: what it is worth is what the hold of that sum in a sandbox is worth. -/
noncomputable def Ybaf.pinned : Pinned := { name := "ybulkbuiufmt", sum := "fcdea8d1a12b5934c4acaab1aae15e97c2abb42e57d843a64618b17fb7b8d498", checked := Ybaf.checked }
namespace Rows
def none {H : Type} : Left H := { results := [], args := [] }

/-- 'wire.LawS3543BDecode': WHATEVER THE INPUT: true; the input reads as it did. -/
def lawS3543BDecodeSpec : ChangeSpec := { name := "lawS3543BDecode", fn := fun _ => fun
  | [d1, d2] => { results := [.lit (.bool true)], args := [d1, d2] }
  | _ => none }
def lawS3543BDecodeRow : OpenClaim := { program := "ybulkbuiufmt", sum := "fcdea8d1a12b5934c4acaab1aae15e97c2abb42e57d843a64618b17fb7b8d498", func := "example.com/wandermesh/wandermesh/internal/wire.LawS3543BDecode", spec := "lawS3543BDecode", stops := ["fmt.errorf"], inPlace := ["fmt.errorf"], apart := false }
/-- NO THEOREM (fmt's text is open here; it may be false): for the released tool's asking of the row's closed facts alone. THE STATEMENT IS 'LawS3543BDecodeToldSaid' (YbulkbuiuFmtCards.lean). -/
def LawS3543BDecodeFormAsk : Prop := lawS3543BDecodeRow.holds Ybaf.pinned (OpenSpec.ofChange lawS3543BDecodeSpec)

/-- ITS FALSE NEIGHBOUR: 'it returns false'. Refute it at one input. -/
def lawS3543BDecodeWrong : ChangeSpec := { name := "lawS3543BDecode", fn := fun _ => fun
  | [d1, d2] => { results := [.lit (.bool false)], args := [d1, d2] }
  | _ => none }
def LawS3543BDecodeWrongFormAsk : Prop := lawS3543BDecodeRow.holds Ybaf.pinned (OpenSpec.ofChange lawS3543BDecodeWrong)

/-- 'wire.LawS3543BRoundTrip': WHATEVER THE INPUT: true; the input reads as it did. -/
def lawS3543BRoundTripSpec : ChangeSpec := { name := "lawS3543BRoundTrip", fn := fun _ => fun
  | [d1, d2] => { results := [.lit (.bool true)], args := [d1, d2] }
  | _ => none }
def lawS3543BRoundTripRow : OpenClaim := { program := "ybulkbuiufmt", sum := "fcdea8d1a12b5934c4acaab1aae15e97c2abb42e57d843a64618b17fb7b8d498", func := "example.com/wandermesh/wandermesh/internal/wire.LawS3543BRoundTrip", spec := "lawS3543BRoundTrip", stops := ["fmt.errorf"], inPlace := ["fmt.errorf"], apart := false }
/-- NO THEOREM (fmt's text is open here; it may be false): for the released tool's asking of the row's closed facts alone. THE STATEMENT IS 'LawS3543BRoundTripToldSaid' (YbulkbuiuFmtCards.lean). -/
def LawS3543BRoundTripFormAsk : Prop := lawS3543BRoundTripRow.holds Ybaf.pinned (OpenSpec.ofChange lawS3543BRoundTripSpec)

/-- ITS FALSE NEIGHBOUR: 'it returns false'. Refute it at one input. -/
def lawS3543BRoundTripWrong : ChangeSpec := { name := "lawS3543BRoundTrip", fn := fun _ => fun
  | [d1, d2] => { results := [.lit (.bool false)], args := [d1, d2] }
  | _ => none }
def LawS3543BRoundTripWrongFormAsk : Prop := lawS3543BRoundTripRow.holds Ybaf.pinned (OpenSpec.ofChange lawS3543BRoundTripWrong)

end Rows
end Go.Proofs.YbulkbuiuFmt
