/-
  No cell of these rows narrows 'for every input' (looked for: loops, veiled, ifaces, maps, wideKeys, modest, calm, conditions, laid).
  DERIVED. THE GIVEN ROWS OF THIS SEAT. 2 by the template 'for every input the law returns true; each argument reads behind the call as it read before'; 0 by the template 'total and deterministic' (their statements: Qxb6613904aTotals.lean).
  GIVEN WITH THE SEED: the statements are not yours to turn. If you find one false, say at which input.
  Laid BY PROGRAM, IN A SANDBOX (cutbox-rows.mjs): the forced cells as the released guide's own fill.sh prints them over the translation e168b4e22110883b… (all of the seat's roots in one cut). By AI agents, Wed Nov 11 2026. No macro, syntax, notation, axiom, sorry.
-/
import Derived.Test.Qxb6613904aChecked
import GoSem.Claim
import GoSem.ClaimJoined
import GoSem.ClaimMapViews
import Derived.JoinedTies
import Derived.KernelRfl
namespace Go.Proofs.Qxb6613904a
/- THE CELL 'sum', in the pinned program and in every row, IS THE sha256 OF THE DUMP (.gsa) THAT Qxb6613904aProg.lean LOADS. Nothing in Lean hashes anything: it is a label: what it is worth is what the hold of that sum in a sandbox is worth. -/
noncomputable def Try.pinned : Pinned := { name := "qxb6613904a", sum := "e168b4e22110883b511d957c94c7cc0abfdc1e4b01946e6c65c2e598d956ecb6", checked := Try.checked }
namespace Rows
def none {H : Type} : Left H := { results := [], args := [] }

/-- 'zzlaws_internal_storage_b1.FnAppendRecordWritesTheDocumentedBody': WHATEVER THE INPUT: true; the input reads as it did. -/
def fnAppendRecordWritesTheDocumentedBodySpec : ChangeSpec := { name := "fnAppendRecordWritesTheDocumentedBody", fn := fun _ => fun
  | [d1, d2] => { results := [.lit (.bool true)], args := [d1, d2] }
  | _ => none }
def fnAppendRecordWritesTheDocumentedBodyRow : OpenClaim := { program := "qxb6613904a", sum := "e168b4e22110883b511d957c94c7cc0abfdc1e4b01946e6c65c2e598d956ecb6", func := "example.com/synodic/synodic/zzlaws_internal_storage_b1.FnAppendRecordWritesTheDocumentedBody", spec := "fnAppendRecordWritesTheDocumentedBody", apart := false }
def FnAppendRecordWritesTheDocumentedBodySaid : Prop := fnAppendRecordWritesTheDocumentedBodyRow.holds Try.pinned (OpenSpec.ofChange fnAppendRecordWritesTheDocumentedBodySpec)

/-- ITS FALSE NEIGHBOUR: 'it returns false'. Refute it at one input. -/
def fnAppendRecordWritesTheDocumentedBodyWrong : ChangeSpec := { name := "fnAppendRecordWritesTheDocumentedBody", fn := fun _ => fun
  | [d1, d2] => { results := [.lit (.bool false)], args := [d1, d2] }
  | _ => none }
def FnAppendRecordWritesTheDocumentedBodyWrongFalsely : Prop := fnAppendRecordWritesTheDocumentedBodyRow.holds Try.pinned (OpenSpec.ofChange fnAppendRecordWritesTheDocumentedBodyWrong)

/-- 'zzlaws_internal_storage_b1.FnAppendRecordTellsRecordsApart': WHATEVER THE INPUT: true; the input reads as it did. -/
def fnAppendRecordTellsRecordsApartSpec : ChangeSpec := { name := "fnAppendRecordTellsRecordsApart", fn := fun _ => fun
  | [d1, d2] => { results := [.lit (.bool true)], args := [d1, d2] }
  | _ => none }
def fnAppendRecordTellsRecordsApartRow : OpenClaim := { program := "qxb6613904a", sum := "e168b4e22110883b511d957c94c7cc0abfdc1e4b01946e6c65c2e598d956ecb6", func := "example.com/synodic/synodic/zzlaws_internal_storage_b1.FnAppendRecordTellsRecordsApart", spec := "fnAppendRecordTellsRecordsApart", apart := false }
def FnAppendRecordTellsRecordsApartSaid : Prop := fnAppendRecordTellsRecordsApartRow.holds Try.pinned (OpenSpec.ofChange fnAppendRecordTellsRecordsApartSpec)

/-- ITS FALSE NEIGHBOUR: 'it returns false'. Refute it at one input. -/
def fnAppendRecordTellsRecordsApartWrong : ChangeSpec := { name := "fnAppendRecordTellsRecordsApart", fn := fun _ => fun
  | [d1, d2] => { results := [.lit (.bool false)], args := [d1, d2] }
  | _ => none }
def FnAppendRecordTellsRecordsApartWrongFalsely : Prop := fnAppendRecordTellsRecordsApartRow.holds Try.pinned (OpenSpec.ofChange fnAppendRecordTellsRecordsApartWrong)

end Rows
end Go.Proofs.Qxb6613904a
