/-
  DERIVED. GIVEN WITH THE SEED: THE CARDS: each row of YbulkbuiuFmtRows.lean that lists a variable, with what it lists TIED to the program's text (the seventh form; the later family's looks); each row that meets fmt, with fmt's text TOLD by the authors' own Lean function (tested against real Go, not proved from fmt's source: count such statements apart). THE CARD IS WHAT COUNTS. Prove the row's statement (the work); the ties are given (YbulkbuiuFmtTie.lean); close each card by the builder's one call (the guide's Derived/Test/ToyasCard.lean, 'card_holds'). Laid BY PROGRAM, IN A SANDBOX (cutbox-door.mjs). By AI agents, Wed Nov 11 2026. No macro, syntax, notation, axiom, sorry.
-/
import Derived.Test.YbulkbuiuFmtRows
import GoSem.ClaimSeven
namespace Go.Proofs.YbulkbuiuFmt
namespace Rows

/-- THE TOLD CARD OF 'wire.LawS3543BDecode'. -/
def lawS3543BDecodeCard : Claim7 := { stood := { row := lawS3543BDecodeRow, standIns := [], harness := (true, "1dd5059cd551a53fd39bd7e2f2f110c293694613c2a72f8a71be403668c73a5e"), looks := true }, told := true, goes := false }
def LawS3543BDecodeToldSaid : Prop := Claim7.holds Ybaf.pinned (.plain (OpenSpec.ofChange lawS3543BDecodeSpec)) lawS3543BDecodeCard
/-- ITS FALSE NEIGHBOUR. Refute it at one input. -/
def LawS3543BDecodeToldWrongFalsely : Prop := Claim7.holds Ybaf.pinned (.plain (OpenSpec.ofChange lawS3543BDecodeWrong)) lawS3543BDecodeCard

/-- THE TOLD CARD OF 'wire.LawS3543BRoundTrip'. -/
def lawS3543BRoundTripCard : Claim7 := { stood := { row := lawS3543BRoundTripRow, standIns := [], harness := (true, "1dd5059cd551a53fd39bd7e2f2f110c293694613c2a72f8a71be403668c73a5e"), looks := true }, told := true, goes := false }
def LawS3543BRoundTripToldSaid : Prop := Claim7.holds Ybaf.pinned (.plain (OpenSpec.ofChange lawS3543BRoundTripSpec)) lawS3543BRoundTripCard
/-- ITS FALSE NEIGHBOUR. Refute it at one input. -/
def LawS3543BRoundTripToldWrongFalsely : Prop := Claim7.holds Ybaf.pinned (.plain (OpenSpec.ofChange lawS3543BRoundTripWrong)) lawS3543BRoundTripCard
end Rows
end Go.Proofs.YbulkbuiuFmt
