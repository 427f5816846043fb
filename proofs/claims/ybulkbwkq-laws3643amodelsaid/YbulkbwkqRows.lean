/-
  No cell of these rows narrows 'for every input' (looked for: loops, veiled, ifaces, maps, wideKeys, modest, calm, conditions, laid).
  DERIVED. THE GIVEN ROWS OF THIS SEAT. 2 by the template 'for every input the law returns true; each argument reads behind the call as it read before'; 0 by the template 'total and deterministic' (their statements: YbulkbwkqTotals.lean).
  GIVEN WITH THE SEED: the statements are not yours to turn. If you find one false, say at which input.
  Laid BY PROGRAM, IN A SANDBOX (cutbox-rows.mjs): the forced cells as the released guide's own fill.sh prints them over the translation c257f91aa1e7b7ed… (all of the seat's roots in one cut). By AI agents, Wed Nov 11 2026. No macro, syntax, notation, axiom, sorry.
-/
import Derived.Test.YbulkbwkqChecked
import GoSem.Claim
import GoSem.ClaimJoined
import GoSem.ClaimMapViews
import Derived.JoinedTies
import Derived.KernelRfl
namespace Go.Proofs.Ybulkbwkq
/- THE CELL 'sum', in the pinned program and in every row, IS THE sha256 OF THE DUMP (.gsa) THAT YbulkbwkqProg.lean LOADS. Nothing in Lean hashes anything: it is a label: what it is worth is what the hold of that sum in a sandbox is worth. -/
noncomputable def Yba.pinned : Pinned := { name := "ybulkbwkq", sum := "c257f91aa1e7b7ed357d6ebe127a32568167e900712a592ce73ebb30f6ee09c5", checked := Yba.checked }
namespace Rows
def none {H : Type} : Left H := { results := [], args := [] }

/-- 'handsel.LawS3643AModel': WHATEVER THE INPUT: true; the input reads as it did. -/
def lawS3643AModelSpec : ChangeSpec := { name := "lawS3643AModel", fn := fun _ => fun
  | [d1, d2, d3] => { results := [.lit (.bool true)], args := [d1, d2, d3] }
  | _ => none }
def lawS3643AModelRow : OpenClaim := { program := "ybulkbwkq", sum := "c257f91aa1e7b7ed357d6ebe127a32568167e900712a592ce73ebb30f6ee09c5", func := "example.com/handsel/handsel.LawS3643AModel", spec := "lawS3643AModel", inPlace := ["crypto/internal/constanttime.boolToUint8"], apart := false }
def LawS3643AModelSaid : Prop := lawS3643AModelRow.holds Yba.pinned (OpenSpec.ofChange lawS3643AModelSpec)

/-- ITS FALSE NEIGHBOUR: 'it returns false'. Refute it at one input. -/
def lawS3643AModelWrong : ChangeSpec := { name := "lawS3643AModel", fn := fun _ => fun
  | [d1, d2, d3] => { results := [.lit (.bool false)], args := [d1, d2, d3] }
  | _ => none }
def LawS3643AModelWrongFalsely : Prop := lawS3643AModelRow.holds Yba.pinned (OpenSpec.ofChange lawS3643AModelWrong)

/-- 'handsel.LawS3643APadded': WHATEVER THE INPUT: true; the input reads as it did. -/
def lawS3643APaddedSpec : ChangeSpec := { name := "lawS3643APadded", fn := fun _ => fun
  | [d1, d2, d3, d4] => { results := [.lit (.bool true)], args := [d1, d2, d3, d4] }
  | _ => none }
def lawS3643APaddedRow : OpenClaim := { program := "ybulkbwkq", sum := "c257f91aa1e7b7ed357d6ebe127a32568167e900712a592ce73ebb30f6ee09c5", func := "example.com/handsel/handsel.LawS3643APadded", spec := "lawS3643APadded", inPlace := ["crypto/internal/constanttime.boolToUint8"], apart := false }
def LawS3643APaddedSaid : Prop := lawS3643APaddedRow.holds Yba.pinned (OpenSpec.ofChange lawS3643APaddedSpec)

/-- ITS FALSE NEIGHBOUR: 'it returns false'. Refute it at one input. -/
def lawS3643APaddedWrong : ChangeSpec := { name := "lawS3643APadded", fn := fun _ => fun
  | [d1, d2, d3, d4] => { results := [.lit (.bool false)], args := [d1, d2, d3, d4] }
  | _ => none }
def LawS3643APaddedWrongFalsely : Prop := lawS3643APaddedRow.holds Yba.pinned (OpenSpec.ofChange lawS3643APaddedWrong)

end Rows
end Go.Proofs.Ybulkbwkq
