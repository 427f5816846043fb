/-
  DERIVED. GIVEN WITH THE SEED: THE CARDS: each row of YbulkbwgiFmtRows.lean that lists a variable, with what it lists TIED to the program's text (the seventh form; the later family's looks); each row that meets fmt, with fmt's text TOLD by the authors' own Lean function (tested against real Go, not proved from fmt's source: count such statements apart). THE CARD IS WHAT COUNTS. Prove the row's statement (the work); the ties are given (YbulkbwgiFmtTie.lean); close each card by the builder's one call (the guide's Derived/Test/ToyasCard.lean, 'card_holds'). Laid BY PROGRAM, IN A SANDBOX (cutbox-door.mjs). By AI agents, Wed Nov 11 2026. No macro, syntax, notation, axiom, sorry.
-/
import Derived.Test.YbulkbwgiFmtRows
import GoSem.ClaimSeven
namespace Go.Proofs.YbulkbwgiFmt
namespace Rows

/-- THE TOLD CARD OF 'hasync.LawS3635BOutcome'. -/
def lawS3635BOutcomeCard : Claim7 := { stood := { row := lawS3635BOutcomeRow, standIns := [], harness := (true, "a99b06d7af26ace76fdcd280166871c73436c1e342294f5bb4cfbd112aade8f4"), looks := false }, told := true, goes := false }
def LawS3635BOutcomeToldSaid : Prop := Claim7.holds Ybaf.pinned (.plain (OpenSpec.ofChange lawS3635BOutcomeSpec)) lawS3635BOutcomeCard
/-- ITS FALSE NEIGHBOUR. Refute it at one input. -/
def LawS3635BOutcomeToldWrongFalsely : Prop := Claim7.holds Ybaf.pinned (.plain (OpenSpec.ofChange lawS3635BOutcomeWrong)) lawS3635BOutcomeCard

/-- THE TOLD CARD OF 'hasync.LawS3635BRaise'. -/
def lawS3635BRaiseCard : Claim7 := { stood := { row := lawS3635BRaiseRow, standIns := [], harness := (true, "a99b06d7af26ace76fdcd280166871c73436c1e342294f5bb4cfbd112aade8f4"), looks := false }, told := true, goes := false }
def LawS3635BRaiseToldSaid : Prop := Claim7.holds Ybaf.pinned (.plain (OpenSpec.ofChange lawS3635BRaiseSpec)) lawS3635BRaiseCard
/-- ITS FALSE NEIGHBOUR. Refute it at one input. -/
def LawS3635BRaiseToldWrongFalsely : Prop := Claim7.holds Ybaf.pinned (.plain (OpenSpec.ofChange lawS3635BRaiseWrong)) lawS3635BRaiseCard

/-- THE TOLD AND TIED CARD OF 'pmipv6.LawS3635CNames'. -/
def lawS3635CNamesCard : Claim7 := { stood := { row := lawS3635CNamesRow, standIns := [], harness := (true, "a99b06d7af26ace76fdcd280166871c73436c1e342294f5bb4cfbd112aade8f4"), looks := false }, told := true, laidByText := true, laidKinds := [.data], laidTests := true, laidLooks := .later, goes := false }
def LawS3635CNamesToldSaid : Prop := Claim7.holds Ybaf.pinned (.plain (OpenSpec.ofChange lawS3635CNamesSpec)) lawS3635CNamesCard
/-- ITS FALSE NEIGHBOUR. Refute it at one input. -/
def LawS3635CNamesToldWrongFalsely : Prop := Claim7.holds Ybaf.pinned (.plain (OpenSpec.ofChange lawS3635CNamesWrong)) lawS3635CNamesCard

/-- THE TOLD AND TIED CARD OF 'pmipv6.LawS3635CKinds'. -/
def lawS3635CKindsCard : Claim7 := { stood := { row := lawS3635CKindsRow, standIns := [], harness := (true, "a99b06d7af26ace76fdcd280166871c73436c1e342294f5bb4cfbd112aade8f4"), looks := false }, told := true, laidByText := true, laidKinds := [.data], laidTests := true, laidLooks := .later, goes := false }
def LawS3635CKindsToldSaid : Prop := Claim7.holds Ybaf.pinned (.plain (OpenSpec.ofChange lawS3635CKindsSpec)) lawS3635CKindsCard
/-- ITS FALSE NEIGHBOUR. Refute it at one input. -/
def LawS3635CKindsToldWrongFalsely : Prop := Claim7.holds Ybaf.pinned (.plain (OpenSpec.ofChange lawS3635CKindsWrong)) lawS3635CKindsCard
end Rows
end Go.Proofs.YbulkbwgiFmt
