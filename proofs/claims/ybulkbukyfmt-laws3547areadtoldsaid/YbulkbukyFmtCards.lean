/-
  DERIVED. GIVEN WITH THE SEED: THE CARDS: each row of YbulkbukyFmtRows.lean that lists a variable, with what it lists TIED to the program's text (the seventh form; the later family's looks); each row that meets fmt, with fmt's text TOLD by the authors' own Lean function (tested against real Go, not proved from fmt's source: count such statements apart). THE CARD IS WHAT COUNTS. Prove the row's statement (the work); the ties are given (YbulkbukyFmtTie.lean); close each card by the builder's one call (the guide's Derived/Test/ToyasCard.lean, 'card_holds'). Laid BY PROGRAM, IN A SANDBOX (cutbox-door.mjs). By AI agents, Wed Nov 11 2026. No macro, syntax, notation, axiom, sorry.
-/
import Derived.Test.YbulkbukyFmtRows
import GoSem.ClaimSeven
namespace Go.Proofs.YbulkbukyFmt
namespace Rows

/-- THE TOLD AND TIED CARD OF 'sql.LawS3547ARead'. -/
def lawS3547AReadCard : Claim7 := { stood := { row := lawS3547AReadRow, standIns := [], harness := (true, "4798c43bde93ccd15e4386f0ac7c5d7dbaeb869fe95a2ddee80e36999ad5ff00"), looks := true }, told := true, laidByText := true, laidKinds := [.data, .data, .data, .sentinel, .sentinel], laidTests := true, laidLooks := .later, goes := false }
def LawS3547AReadToldSaid : Prop := Claim7.holds Ybaf.pinned (.plain (OpenSpec.ofChange lawS3547AReadSpec)) lawS3547AReadCard
/-- ITS FALSE NEIGHBOUR. Refute it at one input. -/
def LawS3547AReadToldWrongFalsely : Prop := Claim7.holds Ybaf.pinned (.plain (OpenSpec.ofChange lawS3547AReadWrong)) lawS3547AReadCard

/-- THE TOLD AND TIED CARD OF 'sql.LawS3547BOutcome'. -/
def lawS3547BOutcomeCard : Claim7 := { stood := { row := lawS3547BOutcomeRow, standIns := [], harness := (true, "4798c43bde93ccd15e4386f0ac7c5d7dbaeb869fe95a2ddee80e36999ad5ff00"), looks := true }, told := true, laidByText := true, laidKinds := [.data, .data, .data, .data, .sentinel, .sentinel, .data, .data, .pinned, .pinned], laidTests := true, laidLooks := .later, goes := false }
def LawS3547BOutcomeToldSaid : Prop := Claim7.holds Ybaf.pinned (.plain (OpenSpec.ofChange lawS3547BOutcomeSpec)) lawS3547BOutcomeCard
/-- ITS FALSE NEIGHBOUR. Refute it at one input. -/
def LawS3547BOutcomeToldWrongFalsely : Prop := Claim7.holds Ybaf.pinned (.plain (OpenSpec.ofChange lawS3547BOutcomeWrong)) lawS3547BOutcomeCard
end Rows
end Go.Proofs.YbulkbukyFmt
