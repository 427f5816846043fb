/-
  No cell of these rows narrows 'for every input' (looked for: loops, veiled, ifaces, maps, wideKeys, modest, calm, conditions, laid).
  DERIVED. THE GIVEN ROWS OF THIS SEAT. 2 by the template 'for every input the law returns true; each argument reads behind the call as it read before'; 0 by the template 'total and deterministic' (their statements: YbulkbwimFmtTotals.lean).
  GIVEN WITH THE SEED: the statements are not yours to turn. If you find one false, say at which input.
  Laid BY PROGRAM, IN A SANDBOX (cutbox-rows.mjs): the forced cells as the released guide's own fill.sh prints them over the translation d620c446c5ce3a9f… (all of the seat's roots in one cut). By AI agents, Wed Nov 11 2026. No macro, syntax, notation, axiom, sorry.
-/
import Derived.Test.YbulkbwimFmtChecked
import GoSem.Claim
import GoSem.ClaimJoined
import GoSem.ClaimMapViews
import Derived.JoinedTies
import Derived.KernelRfl
namespace Go.Proofs.YbulkbwimFmt
/- THE CELL 'sum', in the pinned program and in every row, IS THE sha256 OF THE DUMP (.gsa) THAT YbulkbwimFmtProg.lean LOADS. Nothing in Lean hashes anything: it is a label: what it is worth is what the hold of that sum in a sandbox is worth. -/
noncomputable def Ybaf.pinned : Pinned := { name := "ybulkbwimfmt", sum := "d620c446c5ce3a9f87f1ff33fa95785b61834c16d540cecc38bc3e856c36af0c", checked := Ybaf.checked }
namespace Rows
def none {H : Type} : Left H := { results := [], args := [] }

/-- 'bellowspool.LawS3639CRecords': WHATEVER THE INPUT: true; the input reads as it did. -/
def lawS3639CRecordsSpec : ChangeSpec := { name := "lawS3639CRecords", fn := fun _ => fun
  | [d1, d2, d3, d4] => { results := [.lit (.bool true)], args := [d1, d2, d3, d4] }
  | _ => none }
def lawS3639CRecordsRow : OpenClaim := { program := "ybulkbwimfmt", sum := "d620c446c5ce3a9f87f1ff33fa95785b61834c16d540cecc38bc3e856c36af0c", func := "example.com/bellowspool/bellowspool.LawS3639CRecords", spec := "lawS3639CRecords", stops := ["fmt.Sprintf, its operands' methods called", "fmt.errorf"], inPlace := ["fmt.Sprintf", "fmt.errorf"], unfollowed := true, recurses := true, apart := false }
/-- NO THEOREM (fmt's text is open here; it may be false): for the released tool's asking of the row's closed facts alone. THE STATEMENT IS 'LawS3639CRecordsToldSaid' (YbulkbwimFmtCards.lean). -/
def LawS3639CRecordsFormAsk : Prop := lawS3639CRecordsRow.holds Ybaf.pinned (OpenSpec.ofChange lawS3639CRecordsSpec)

/-- ITS FALSE NEIGHBOUR: 'it returns false'. Refute it at one input. -/
def lawS3639CRecordsWrong : ChangeSpec := { name := "lawS3639CRecords", fn := fun _ => fun
  | [d1, d2, d3, d4] => { results := [.lit (.bool false)], args := [d1, d2, d3, d4] }
  | _ => none }
def LawS3639CRecordsWrongFormAsk : Prop := lawS3639CRecordsRow.holds Ybaf.pinned (OpenSpec.ofChange lawS3639CRecordsWrong)

/-- 'bellowspool.LawS3639CErrNil': WHATEVER THE INPUT: true; the input reads as it did. -/
def lawS3639CErrNilSpec : ChangeSpec := { name := "lawS3639CErrNil", fn := fun _ => fun
  | [d1, d2, d3, d4, d5] => { results := [.lit (.bool true)], args := [d1, d2, d3, d4, d5] }
  | _ => none }
def lawS3639CErrNilRow : OpenClaim := { program := "ybulkbwimfmt", sum := "d620c446c5ce3a9f87f1ff33fa95785b61834c16d540cecc38bc3e856c36af0c", func := "example.com/bellowspool/bellowspool.LawS3639CErrNil", spec := "lawS3639CErrNil", stops := ["fmt.Sprintf, its operands' methods called", "fmt.errorf"], inPlace := ["fmt.Sprintf", "fmt.errorf"], unfollowed := true, recurses := true, apart := false }
/-- NO THEOREM (fmt's text is open here; it may be false): for the released tool's asking of the row's closed facts alone. THE STATEMENT IS 'LawS3639CErrNilToldSaid' (YbulkbwimFmtCards.lean). -/
def LawS3639CErrNilFormAsk : Prop := lawS3639CErrNilRow.holds Ybaf.pinned (OpenSpec.ofChange lawS3639CErrNilSpec)

/-- ITS FALSE NEIGHBOUR: 'it returns false'. Refute it at one input. -/
def lawS3639CErrNilWrong : ChangeSpec := { name := "lawS3639CErrNil", fn := fun _ => fun
  | [d1, d2, d3, d4, d5] => { results := [.lit (.bool false)], args := [d1, d2, d3, d4, d5] }
  | _ => none }
def LawS3639CErrNilWrongFormAsk : Prop := lawS3639CErrNilRow.holds Ybaf.pinned (OpenSpec.ofChange lawS3639CErrNilWrong)

end Rows
end Go.Proofs.YbulkbwimFmt
