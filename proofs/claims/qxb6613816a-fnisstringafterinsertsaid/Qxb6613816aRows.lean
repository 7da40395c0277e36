/-
  No cell of these rows narrows 'for every input' (looked for: loops, veiled, ifaces, maps, wideKeys, modest, calm, conditions, laid).
  DERIVED. THE GIVEN ROWS OF THIS SEAT. 2 by the template 'for every input the law returns true; each argument reads behind the call as it read before'; 0 by the template 'total and deterministic' (their statements: Qxb6613816aTotals.lean).
  GIVEN WITH THE SEED: the statements are not yours to turn. If you find one false, say at which input.
  Laid BY PROGRAM, IN A SANDBOX (cutbox-rows.mjs): the forced cells as the released guide's own fill.sh prints them over the translation 078dcf3e939b533b… (all of the seat's roots in one cut). By AI agents, Wed Nov 11 2026. No macro, syntax, notation, axiom, sorry.
-/
import Derived.Test.Qxb6613816aChecked
import GoSem.Claim
import GoSem.ClaimJoined
import GoSem.ClaimMapViews
import Derived.JoinedTies
import Derived.KernelRfl
namespace Go.Proofs.Qxb6613816a
/- THE CELL 'sum', in the pinned program and in every row, IS THE sha256 OF THE DUMP (.gsa) THAT Qxb6613816aProg.lean LOADS. Nothing in Lean hashes anything: it is a label: what it is worth is what the hold of that sum in a sandbox is worth. -/
noncomputable def Try.pinned : Pinned := { name := "qxb6613816a", sum := "078dcf3e939b533b2decfdf29fc44530470bf528bbb0b98ca43d9cf1d85fd8b2", checked := Try.checked }
namespace Rows
def none {H : Type} : Left H := { results := [], args := [] }

/-- 'zzlaws_internal_statement_b1.FnIsStringAfterInsert': WHATEVER THE INPUT: true; the input reads as it did. -/
def fnIsStringAfterInsertSpec : ChangeSpec := { name := "fnIsStringAfterInsert", fn := fun _ => fun
  | [d1, d2, d3, d4] => { results := [.lit (.bool true)], args := [d1, d2, d3, d4] }
  | _ => none }
def fnIsStringAfterInsertRow : OpenClaim := { program := "qxb6613816a", sum := "078dcf3e939b533b2decfdf29fc44530470bf528bbb0b98ca43d9cf1d85fd8b2", func := "example.com/honeyguide/honeyguide/zzlaws_internal_statement_b1.FnIsStringAfterInsert", spec := "fnIsStringAfterInsert", apart := false }
def FnIsStringAfterInsertSaid : Prop := fnIsStringAfterInsertRow.holds Try.pinned (OpenSpec.ofChange fnIsStringAfterInsertSpec)

/-- ITS FALSE NEIGHBOUR: 'it returns false'. Refute it at one input. -/
def fnIsStringAfterInsertWrong : ChangeSpec := { name := "fnIsStringAfterInsert", fn := fun _ => fun
  | [d1, d2, d3, d4] => { results := [.lit (.bool false)], args := [d1, d2, d3, d4] }
  | _ => none }
def FnIsStringAfterInsertWrongFalsely : Prop := fnIsStringAfterInsertRow.holds Try.pinned (OpenSpec.ofChange fnIsStringAfterInsertWrong)

/-- 'zzlaws_internal_statement_b1.FnIsStringAcrossACut': WHATEVER THE INPUT: true; the input reads as it did. -/
def fnIsStringAcrossACutSpec : ChangeSpec := { name := "fnIsStringAcrossACut", fn := fun _ => fun
  | [d1, d2, d3, d4] => { results := [.lit (.bool true)], args := [d1, d2, d3, d4] }
  | _ => none }
def fnIsStringAcrossACutRow : OpenClaim := { program := "qxb6613816a", sum := "078dcf3e939b533b2decfdf29fc44530470bf528bbb0b98ca43d9cf1d85fd8b2", func := "example.com/honeyguide/honeyguide/zzlaws_internal_statement_b1.FnIsStringAcrossACut", spec := "fnIsStringAcrossACut", apart := false }
def FnIsStringAcrossACutSaid : Prop := fnIsStringAcrossACutRow.holds Try.pinned (OpenSpec.ofChange fnIsStringAcrossACutSpec)

/-- ITS FALSE NEIGHBOUR: 'it returns false'. Refute it at one input. -/
def fnIsStringAcrossACutWrong : ChangeSpec := { name := "fnIsStringAcrossACut", fn := fun _ => fun
  | [d1, d2, d3, d4] => { results := [.lit (.bool false)], args := [d1, d2, d3, d4] }
  | _ => none }
def FnIsStringAcrossACutWrongFalsely : Prop := fnIsStringAcrossACutRow.holds Try.pinned (OpenSpec.ofChange fnIsStringAcrossACutWrong)

end Rows
end Go.Proofs.Qxb6613816a
