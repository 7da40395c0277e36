/-
  A Path in its block.
-/
import Derived.Test.Qxb6613771aBuild
import Derived.Test.Qxb6613771aCmp
namespace Go.Proofs.Qxb6613771a
open Go.RowKit
set_option linter.unusedVariables false

/-- A Path in its block: the whole, and each part. -/
theorem path_cells {w : World} {b : Nat} {cl : Int} {bw : Nat} {hp : Int} {p q : Option Addr} (h : w.heap[b]? = some (.cells (pathC cl bw hp p q) 38 (0, 0))) :
    w.cell? ⟨b, 0, none⟩ = some (.int .i64 cl) ∧ w.cell? ⟨b, 1, none⟩ = some (.float .f64 bw) ∧ w.cell? ⟨b, 2, none⟩ = some (.int .i64 hp) ∧ w.cell? ⟨b, 3, none⟩ = some (.pointer p) ∧ w.cell? ⟨b, 4, none⟩ = some (.pointer q) := by
  simp [World.cell?, h]
end Go.Proofs.Qxb6613771a
