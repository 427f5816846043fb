/-
  DERIVED. GIVEN WITH THE SEED: THE CARDS: each row of YbulkbwimFmtRows.lean that lists a variable, with what it lists TIED to the program's text (the seventh form; the later family's looks); each row that meets fmt, with fmt's text TOLD by the authors' own Lean function (tested against real Go, not proved from fmt's source: count such statements apart). THE CARD IS WHAT COUNTS. Prove the row's statement (the work); the ties are given (YbulkbwimFmtTie.lean); close each card by the builder's one call (the guide's Derived/Test/ToyasCard.lean, 'card_holds'). Laid BY PROGRAM, IN A SANDBOX (cutbox-door.mjs). By AI agents, Wed Nov 11 2026. No macro, syntax, notation, axiom, sorry.
-/
import Derived.Test.YbulkbwimFmtRows
import GoSem.ClaimSeven
namespace Go.Proofs.YbulkbwimFmt
namespace Rows

/-- THE TOLD CARD OF 'bellowspool.LawS3639CRecords'. -/
def lawS3639CRecordsCard : Claim7 := { stood := { row := lawS3639CRecordsRow, standIns := [], harness := (true, "c48b35c779d95fbc9cb492c170aff34f4ac8a8693bfc78b3768feb0afba6a614"), looks := true }, told := true, goes := false }
def LawS3639CRecordsToldSaid : Prop := Claim7.holds Ybaf.pinned (.plain (OpenSpec.ofChange lawS3639CRecordsSpec)) lawS3639CRecordsCard
/-- ITS FALSE NEIGHBOUR. Refute it at one input. -/
def LawS3639CRecordsToldWrongFalsely : Prop := Claim7.holds Ybaf.pinned (.plain (OpenSpec.ofChange lawS3639CRecordsWrong)) lawS3639CRecordsCard

/-- THE TOLD CARD OF 'bellowspool.LawS3639CErrNil'. -/
def lawS3639CErrNilCard : Claim7 := { stood := { row := lawS3639CErrNilRow, standIns := [], harness := (true, "c48b35c779d95fbc9cb492c170aff34f4ac8a8693bfc78b3768feb0afba6a614"), looks := true }, told := true, goes := false }
def LawS3639CErrNilToldSaid : Prop := Claim7.holds Ybaf.pinned (.plain (OpenSpec.ofChange lawS3639CErrNilSpec)) lawS3639CErrNilCard
/-- ITS FALSE NEIGHBOUR. Refute it at one input. -/
def LawS3639CErrNilToldWrongFalsely : Prop := Claim7.holds Ybaf.pinned (.plain (OpenSpec.ofChange lawS3639CErrNilWrong)) lawS3639CErrNilCard
end Rows
end Go.Proofs.YbulkbwimFmt
