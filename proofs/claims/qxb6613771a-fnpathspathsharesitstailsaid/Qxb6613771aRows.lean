/-
  No cell of these rows narrows 'for every input' (looked for: loops, veiled, ifaces, maps, wideKeys, modest, calm, conditions, laid).
  DERIVED. THE GIVEN ROWS OF THIS SEAT. 2 by the template 'for every input the law returns true; each argument reads behind the call as it read before'; 0 by the template 'total and deterministic' (their statements: Qxb6613771aTotals.lean).
  GIVEN WITH THE SEED: the statements are not yours to turn. If you find one false, say at which input.
  Laid BY PROGRAM, IN A SANDBOX (cutbox-rows.mjs): the forced cells as the released guide's own fill.sh prints them over the translation 7a9e4cbc3ea1459b… (all of the seat's roots in one cut). By AI agents, Wed Nov 11 2026. No macro, syntax, notation, axiom, sorry.
-/
import Derived.Test.Qxb6613771aChecked
import GoSem.Claim
import GoSem.ClaimJoined
import GoSem.ClaimMapViews
import Derived.JoinedTies
import Derived.KernelRfl
namespace Go.Proofs.Qxb6613771a
/- THE CELL 'sum', in the pinned program and in every row, IS THE sha256 OF THE DUMP (.gsa) THAT Qxb6613771aProg.lean LOADS. Nothing in Lean hashes anything: it is a label: what it is worth is what the hold of that sum in a sandbox is worth. -/
noncomputable def Try.pinned : Pinned := { name := "qxb6613771a", sum := "7a9e4cbc3ea1459bc2b9e24b0865db051cd6958932fd916c0b5a91359baac9a9", checked := Try.checked }
namespace Rows
def none {H : Type} : Left H := { results := [], args := [] }

/-- 'zzlaws_root_b1.FnP2PAllowedGrowsWithTheLevel': WHATEVER THE INPUT: true; the input reads as it did. -/
def fnP2PAllowedGrowsWithTheLevelSpec : ChangeSpec := { name := "fnP2PAllowedGrowsWithTheLevel", fn := fun _ => fun
  | [d1, d2, d3, d4] => { results := [.lit (.bool true)], args := [d1, d2, d3, d4] }
  | _ => none }
def fnP2PAllowedGrowsWithTheLevelRow : OpenClaim := { program := "qxb6613771a", sum := "7a9e4cbc3ea1459bc2b9e24b0865db051cd6958932fd916c0b5a91359baac9a9", func := "example.com/topoforge/topoforge/zzlaws_root_b1.FnP2PAllowedGrowsWithTheLevel", spec := "fnP2PAllowedGrowsWithTheLevel", apart := false }
def FnP2PAllowedGrowsWithTheLevelSaid : Prop := fnP2PAllowedGrowsWithTheLevelRow.holds Try.pinned (OpenSpec.ofChange fnP2PAllowedGrowsWithTheLevelSpec)

/-- ITS FALSE NEIGHBOUR: 'it returns false'. Refute it at one input. -/
def fnP2PAllowedGrowsWithTheLevelWrong : ChangeSpec := { name := "fnP2PAllowedGrowsWithTheLevel", fn := fun _ => fun
  | [d1, d2, d3, d4] => { results := [.lit (.bool false)], args := [d1, d2, d3, d4] }
  | _ => none }
def FnP2PAllowedGrowsWithTheLevelWrongFalsely : Prop := fnP2PAllowedGrowsWithTheLevelRow.holds Try.pinned (OpenSpec.ofChange fnP2PAllowedGrowsWithTheLevelWrong)

/-- 'zzlaws_root_b1.FnPathsPathSharesItsTail': WHATEVER THE INPUT: true; the input reads as it did. -/
def fnPathsPathSharesItsTailSpec : ChangeSpec := { name := "fnPathsPathSharesItsTail", fn := fun _ => fun
  | [d1, d2, d3, d4, d5] => { results := [.lit (.bool true)], args := [d1, d2, d3, d4, d5] }
  | _ => none }
def fnPathsPathSharesItsTailRow : OpenClaim := { program := "qxb6613771a", sum := "7a9e4cbc3ea1459bc2b9e24b0865db051cd6958932fd916c0b5a91359baac9a9", func := "example.com/topoforge/topoforge/zzlaws_root_b1.FnPathsPathSharesItsTail", spec := "fnPathsPathSharesItsTail", apart := false }
def FnPathsPathSharesItsTailSaid : Prop := fnPathsPathSharesItsTailRow.holds Try.pinned (OpenSpec.ofChange fnPathsPathSharesItsTailSpec)

/-- ITS FALSE NEIGHBOUR: 'it returns false'. Refute it at one input. -/
def fnPathsPathSharesItsTailWrong : ChangeSpec := { name := "fnPathsPathSharesItsTail", fn := fun _ => fun
  | [d1, d2, d3, d4, d5] => { results := [.lit (.bool false)], args := [d1, d2, d3, d4, d5] }
  | _ => none }
def FnPathsPathSharesItsTailWrongFalsely : Prop := fnPathsPathSharesItsTailRow.holds Try.pinned (OpenSpec.ofChange fnPathsPathSharesItsTailWrong)

end Rows
end Go.Proofs.Qxb6613771a
