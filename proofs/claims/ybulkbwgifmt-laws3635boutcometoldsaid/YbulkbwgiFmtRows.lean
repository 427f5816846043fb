/-
  NARROWER THAN 'FOR EVERY INPUT', by the rows' own cells (each row's printed sentence says how): LawS3635CNames: laid · LawS3635CKinds: laid.
  DERIVED. THE GIVEN ROWS OF THIS SEAT. 4 by the template 'for every input the law returns true; each argument reads behind the call as it read before'; 0 by the template 'total and deterministic' (their statements: YbulkbwgiFmtTotals.lean).
  GIVEN WITH THE SEED: the statements are not yours to turn. If you find one false, say at which input.
  Laid BY PROGRAM, IN A SANDBOX (cutbox-rows.mjs): the forced cells as the released guide's own fill.sh prints them over the translation 856b003415102aec… (all of the seat's roots in one cut). By AI agents, Wed Nov 11 2026. No macro, syntax, notation, axiom, sorry.
-/
import Derived.Test.YbulkbwgiFmtChecked
import GoSem.Claim
import GoSem.ClaimJoined
import GoSem.ClaimMapViews
import Derived.JoinedTies
import Derived.KernelRfl
namespace Go.Proofs.YbulkbwgiFmt
/- THE CELL 'sum', in the pinned program and in every row, IS THE sha256 OF THE DUMP (.gsa) THAT YbulkbwgiFmtProg.lean LOADS. Nothing in Lean hashes anything: it is a label: what it is worth is what the hold of that sum in a sandbox is worth. -/
noncomputable def Ybaf.pinned : Pinned := { name := "ybulkbwgifmt", sum := "856b003415102aec6632b66802496b6a0046f99179e6a8688d9c7a47d1612a76", checked := Ybaf.checked }
namespace Rows
def none {H : Type} : Left H := { results := [], args := [] }

/- WHAT THE LISTED PACKAGE-LEVEL VARIABLES READ AS WHEN THE CALL BEGINS. Each datum BY PROGRAM (the guide's laid-datum.mjs) off the statement by which the dump's own 'gosem.cut.vars' lays the variable. In a bare row this is a premise. The card (YbulkbwgiFmtCards.lean) ties it to the program's text. -/
def laid_example_com_pulsewire_pulsewire_pmipv6_eventNames {H : Type} : DataW H := .agg [.lit (.string []), .lit (.string [112, 101, 101, 114, 45, 114, 101, 97, 99, 104, 97, 98, 108, 101]), .lit (.string [112, 101, 101, 114, 45, 117, 110, 114, 101, 97, 99, 104, 97, 98, 108, 101]), .lit (.string [112, 101, 101, 114, 45, 114, 101, 115, 116, 97, 114, 116, 101, 100]), .lit (.string [112, 101, 101, 114, 45, 104, 101, 97, 114, 116, 98, 101, 97, 116, 45, 117, 110, 115, 117, 112, 112, 111, 114, 116, 101, 100])]

/-- 'hasync.LawS3635BOutcome': WHATEVER THE INPUT: true; the input reads as it did. -/
def lawS3635BOutcomeSpec : ChangeSpec := { name := "lawS3635BOutcome", fn := fun _ => fun
  | [d1, d2, d3, d4, d5, d6, d7, d8] => { results := [.lit (.bool true)], args := [d1, d2, d3, d4, d5, d6, d7, d8] }
  | _ => none }
def lawS3635BOutcomeRow : OpenClaim := { program := "ybulkbwgifmt", sum := "856b003415102aec6632b66802496b6a0046f99179e6a8688d9c7a47d1612a76", func := "example.com/pulsewire/pulsewire/hasync.LawS3635BOutcome", spec := "lawS3635BOutcome", stops := ["fmt.Sprintf", "fmt.errorf, its operands' methods called"], inPlace := ["fmt.errorf"], unfollowed := true, recurses := true, named := ["encoding/binary.BigEndian"], apart := false }
/-- NO THEOREM (fmt's text is open here; it may be false): for the released tool's asking of the row's closed facts alone. THE STATEMENT IS 'LawS3635BOutcomeToldSaid' (YbulkbwgiFmtCards.lean). -/
def LawS3635BOutcomeFormAsk : Prop := lawS3635BOutcomeRow.holds Ybaf.pinned (OpenSpec.ofChange lawS3635BOutcomeSpec)

/-- ITS FALSE NEIGHBOUR: 'it returns false'. Refute it at one input. -/
def lawS3635BOutcomeWrong : ChangeSpec := { name := "lawS3635BOutcome", fn := fun _ => fun
  | [d1, d2, d3, d4, d5, d6, d7, d8] => { results := [.lit (.bool false)], args := [d1, d2, d3, d4, d5, d6, d7, d8] }
  | _ => none }
def LawS3635BOutcomeWrongFormAsk : Prop := lawS3635BOutcomeRow.holds Ybaf.pinned (OpenSpec.ofChange lawS3635BOutcomeWrong)

/-- 'hasync.LawS3635BRaise': WHATEVER THE INPUT: true; the input reads as it did. -/
def lawS3635BRaiseSpec : ChangeSpec := { name := "lawS3635BRaise", fn := fun _ => fun
  | [d1, d2, d3, d4, d5, d6, d7] => { results := [.lit (.bool true)], args := [d1, d2, d3, d4, d5, d6, d7] }
  | _ => none }
def lawS3635BRaiseRow : OpenClaim := { program := "ybulkbwgifmt", sum := "856b003415102aec6632b66802496b6a0046f99179e6a8688d9c7a47d1612a76", func := "example.com/pulsewire/pulsewire/hasync.LawS3635BRaise", spec := "lawS3635BRaise", stops := ["fmt.Sprintf", "fmt.errorf, its operands' methods called"], inPlace := ["fmt.errorf"], unfollowed := true, recurses := true, named := ["encoding/binary.BigEndian"], apart := false }
/-- NO THEOREM (fmt's text is open here; it may be false): for the released tool's asking of the row's closed facts alone. THE STATEMENT IS 'LawS3635BRaiseToldSaid' (YbulkbwgiFmtCards.lean). -/
def LawS3635BRaiseFormAsk : Prop := lawS3635BRaiseRow.holds Ybaf.pinned (OpenSpec.ofChange lawS3635BRaiseSpec)

/-- ITS FALSE NEIGHBOUR: 'it returns false'. Refute it at one input. -/
def lawS3635BRaiseWrong : ChangeSpec := { name := "lawS3635BRaise", fn := fun _ => fun
  | [d1, d2, d3, d4, d5, d6, d7] => { results := [.lit (.bool false)], args := [d1, d2, d3, d4, d5, d6, d7] }
  | _ => none }
def LawS3635BRaiseWrongFormAsk : Prop := lawS3635BRaiseRow.holds Ybaf.pinned (OpenSpec.ofChange lawS3635BRaiseWrong)

/-- 'pmipv6.LawS3635CNames': WHATEVER THE INPUT: true; the input reads as it did. -/
def lawS3635CNamesSpec : ChangeSpec := { name := "lawS3635CNames", vars := ["example.com/pulsewire/pulsewire/pmipv6.eventNames"], fn := fun _ => fun
  | [d, g1] => { results := [.lit (.bool true)], args := [d], vars := [g1] }
  | _ => none }
def lawS3635CNamesRow : OpenClaim := { program := "ybulkbwgifmt", sum := "856b003415102aec6632b66802496b6a0046f99179e6a8688d9c7a47d1612a76", func := "example.com/pulsewire/pulsewire/pmipv6.LawS3635CNames", spec := "lawS3635CNames", stops := ["fmt.Sprintf", "fmt.errorf, its operands' methods called"], inPlace := ["fmt.Sprintf"], named := ["example.com/pulsewire/pulsewire/pmipv6.eventNames"], apart := false, laid := [("example.com/pulsewire/pulsewire/pmipv6.eventNames", laid_example_com_pulsewire_pulsewire_pmipv6_eventNames)] }
/-- NO THEOREM (fmt's text is open here; it may be false): for the released tool's asking of the row's closed facts alone. THE STATEMENT IS 'LawS3635CNamesToldSaid' (YbulkbwgiFmtCards.lean). -/
def LawS3635CNamesFormAsk : Prop := lawS3635CNamesRow.holds Ybaf.pinned (OpenSpec.ofChange lawS3635CNamesSpec)

/-- ITS FALSE NEIGHBOUR: 'it returns false'. Refute it at one input. -/
def lawS3635CNamesWrong : ChangeSpec := { name := "lawS3635CNames", vars := ["example.com/pulsewire/pulsewire/pmipv6.eventNames"], fn := fun _ => fun
  | [d, g1] => { results := [.lit (.bool false)], args := [d], vars := [g1] }
  | _ => none }
def LawS3635CNamesWrongFormAsk : Prop := lawS3635CNamesRow.holds Ybaf.pinned (OpenSpec.ofChange lawS3635CNamesWrong)

/-- 'pmipv6.LawS3635CKinds': WHATEVER THE INPUT: true; the input reads as it did. -/
def lawS3635CKindsSpec : ChangeSpec := { name := "lawS3635CKinds", vars := ["example.com/pulsewire/pulsewire/pmipv6.eventNames"], fn := fun _ => fun
  | [g1] => { results := [.lit (.bool true)], args := [], vars := [g1] }
  | _ => none }
def lawS3635CKindsRow : OpenClaim := { program := "ybulkbwgifmt", sum := "856b003415102aec6632b66802496b6a0046f99179e6a8688d9c7a47d1612a76", func := "example.com/pulsewire/pulsewire/pmipv6.LawS3635CKinds", spec := "lawS3635CKinds", stops := ["fmt.Sprintf", "fmt.errorf, its operands' methods called"], inPlace := ["fmt.Sprintf"], named := ["example.com/pulsewire/pulsewire/pmipv6.eventNames"], apart := false, laid := [("example.com/pulsewire/pulsewire/pmipv6.eventNames", laid_example_com_pulsewire_pulsewire_pmipv6_eventNames)] }
/-- NO THEOREM (fmt's text is open here; it may be false): for the released tool's asking of the row's closed facts alone. THE STATEMENT IS 'LawS3635CKindsToldSaid' (YbulkbwgiFmtCards.lean). -/
def LawS3635CKindsFormAsk : Prop := lawS3635CKindsRow.holds Ybaf.pinned (OpenSpec.ofChange lawS3635CKindsSpec)

/-- ITS FALSE NEIGHBOUR: 'it returns false'. Refute it at one input. -/
def lawS3635CKindsWrong : ChangeSpec := { name := "lawS3635CKinds", vars := ["example.com/pulsewire/pulsewire/pmipv6.eventNames"], fn := fun _ => fun
  | [g1] => { results := [.lit (.bool false)], args := [], vars := [g1] }
  | _ => none }
def LawS3635CKindsWrongFormAsk : Prop := lawS3635CKindsRow.holds Ybaf.pinned (OpenSpec.ofChange lawS3635CKindsWrong)

end Rows
end Go.Proofs.YbulkbwgiFmt
