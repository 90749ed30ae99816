/-
  DERIVED. GIVEN WITH THE SEED: THE CARDS: each row of YbulkbujwFmtRows.lean that lists a variable, with what it lists TIED to the program's text (the seventh form; the later family's looks); each row that meets fmt, with fmt's text TOLD by the authors' own Lean function (tested against real Go, not proved from fmt's source: count such statements apart). THE CARD IS WHAT COUNTS. Prove the row's statement (the work); the ties are given (YbulkbujwFmtTie.lean); close each card by the builder's one call (the guide's Derived/Test/ToyasCard.lean, 'card_holds'). Laid BY PROGRAM, IN A SANDBOX (cutbox-door.mjs). By AI agents, Wed Nov 11 2026. No macro, syntax, notation, axiom, sorry.
-/
import Derived.Test.YbulkbujwFmtRows
import GoSem.ClaimSeven
namespace Go.Proofs.YbulkbujwFmt
namespace Rows

/-- THE TOLD CARD OF 'handshake.LawS3545AExact'. -/
def lawS3545AExactCard : Claim7 := { stood := { row := lawS3545AExactRow, standIns := [], harness := (true, "881b4a3c4f72af36cb566b380013308eb1dab96d876ea57c6a1d9e49308c74a9"), looks := true }, told := true, goes := false }
def LawS3545AExactToldSaid : Prop := Claim7.holds Ybaf.pinned (.plain (OpenSpec.ofChange lawS3545AExactSpec)) lawS3545AExactCard
/-- ITS FALSE NEIGHBOUR. Refute it at one input. -/
def LawS3545AExactToldWrongFalsely : Prop := Claim7.holds Ybaf.pinned (.plain (OpenSpec.ofChange lawS3545AExactWrong)) lawS3545AExactCard

/-- THE TOLD CARD OF 'handshake.LawS3545ABoundary'. -/
def lawS3545ABoundaryCard : Claim7 := { stood := { row := lawS3545ABoundaryRow, standIns := [], harness := (true, "881b4a3c4f72af36cb566b380013308eb1dab96d876ea57c6a1d9e49308c74a9"), looks := true }, told := true, goes := false }
def LawS3545ABoundaryToldSaid : Prop := Claim7.holds Ybaf.pinned (.plain (OpenSpec.ofChange lawS3545ABoundarySpec)) lawS3545ABoundaryCard
/-- ITS FALSE NEIGHBOUR. Refute it at one input. -/
def LawS3545ABoundaryToldWrongFalsely : Prop := Claim7.holds Ybaf.pinned (.plain (OpenSpec.ofChange lawS3545ABoundaryWrong)) lawS3545ABoundaryCard

/-- THE TOLD CARD OF 'handshake.LawS3545ARoundTrip'. -/
def lawS3545ARoundTripCard : Claim7 := { stood := { row := lawS3545ARoundTripRow, standIns := [], harness := (true, "881b4a3c4f72af36cb566b380013308eb1dab96d876ea57c6a1d9e49308c74a9"), looks := true }, told := true, goes := false }
def LawS3545ARoundTripToldSaid : Prop := Claim7.holds Ybaf.pinned (.plain (OpenSpec.ofChange lawS3545ARoundTripSpec)) lawS3545ARoundTripCard
/-- ITS FALSE NEIGHBOUR. Refute it at one input. -/
def LawS3545ARoundTripToldWrongFalsely : Prop := Claim7.holds Ybaf.pinned (.plain (OpenSpec.ofChange lawS3545ARoundTripWrong)) lawS3545ARoundTripCard

/-- THE TOLD CARD OF 'halyard.LawS3545CModel'. -/
def lawS3545CModelCard : Claim7 := { stood := { row := lawS3545CModelRow, standIns := [], harness := (true, "881b4a3c4f72af36cb566b380013308eb1dab96d876ea57c6a1d9e49308c74a9"), looks := true }, told := true, goes := false }
def LawS3545CModelToldSaid : Prop := Claim7.holds Ybaf.pinned (.plain (OpenSpec.ofChange lawS3545CModelSpec)) lawS3545CModelCard
/-- ITS FALSE NEIGHBOUR. Refute it at one input. -/
def LawS3545CModelToldWrongFalsely : Prop := Claim7.holds Ybaf.pinned (.plain (OpenSpec.ofChange lawS3545CModelWrong)) lawS3545CModelCard
end Rows
end Go.Proofs.YbulkbujwFmt
