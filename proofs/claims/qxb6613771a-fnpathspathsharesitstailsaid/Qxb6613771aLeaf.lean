/-
  The leaves of the road of 'FnPathsPathSharesItsTail': bwAt, clsAt, minF, maxI, sameF, ZZnewStep, ZZnewPaths, the byte count.
-/
import Derived.Test.Qxb6613771aRows
import Derived.WalkKit
import Derived.ProofKit
import Derived.Below
import Derived.Outline
import Derived.WalkLawsBesides
import Derived.WalkSpells
import Derived.Deep.QuietTactic
import Derived.BigQuiet
namespace Go.Proofs.Qxb6613771a
open Go.RowKit
set_option linter.unusedVariables false

def RetBool (e : Ending) : Prop := ∃ b, e = .returned (.bool b)
theorem fin_bool {b c : Bool} (h : b = c) : Ending.returned (.bool b) = .returned (.bool c) := by rw [h]

/-- Numbers that lie behind a slice, where there are any. -/
def Nums (w : World) (a : Option Addr) (len : Nat) (f : Nat → Value) : Prop :=
  0 < len → ∃ b off, a = some ⟨b, off, none⟩ ∧ b < w.heap.size ∧ ∀ i, i < len → w.cell? ⟨b, off + i, none⟩ = some (f i)
theorem Nums.below {w w' : World} {a : Option Addr} {len : Nat} {f : Nat → Value} (h : Nums w a len f) (hb : Below w.heap.size w w') : Nums w' a len f := by
  intro hl
  obtain ⟨b, off, ha, hlt, hc⟩ := h hl
  exact ⟨b, off, ha, Nat.lt_of_lt_of_le hlt hb.size, fun i hi => (hb.cell (p := ⟨b, off + i, none⟩) hlt).trans (hc i hi)⟩
theorem Nums.mono {w w' : World} {a : Option Addr} {len B : Nat} {f : Nat → Value} (h : Nums w a len f) (hB : w.heap.size ≤ B) (hb : Below B w w') : Nums w' a len f := h.below (hb.mono hB)

set_option maxHeartbeats 1000000 in
theorem bytes6_any (a0 : Option Addr) (l0 c0 : Nat) (a1 : Option Addr) (l1 c1 : Nat) (a2 : Option Addr) (l2 c2 : Nat) (d f : Int) (w : World) :
    Calls Try.prog 6 #[.slice a0 l0 c0, .slice a1 l1 c1, .slice a2 l2 c2, .int .i64 d, .int .i64 f] w fun e w' => RetBool e ∧ w = w' := by
  go_enter Try.func6, Try.ntmps6
  go_wp2
  all_goals (go_ret; exact ⟨⟨_, rfl⟩, rfl⟩)

def bwV (l : Nat) (F : Nat → Nat) (i : Nat) : Nat := if i < l then F i else 4607182418800017408
def clV (l : Nat) (F : Nat → Int) (i : Nat) : Int := if i < l then F i else 0

set_option maxHeartbeats 1000000 in
theorem bwAt_any (a : Option Addr) (l c : Nat) (F : Nat → Nat) (i : Nat) (w : World) (h : Nums w a l (fun i => .float .f64 (F i))) (hl : l ≤ 4096) (hi : i ≤ 4096) :
    Calls Try.prog 14 #[.slice a l c, .int .i64 i] w fun e w' => e = .returned (.float .f64 (bwV l F i)) ∧ w = w' := by
  by_cases hlt : i < l
  · obtain ⟨b, off, rfl, hb, hc⟩ := h (by omega)
    have h1 := hc i hlt
    simp only [bwV, if_pos hlt]
    clear hc
    go_enter Try.func14, Try.ntmps14
    go_wp2
    go_ret
    exact ⟨rfl, rfl⟩
  · simp only [bwV, if_neg hlt]
    go_enter Try.func14, Try.ntmps14
    go_wp2
    go_ret
    exact ⟨rfl, rfl⟩

set_option maxHeartbeats 1000000 in
theorem clsAt_any (a : Option Addr) (l c : Nat) (F : Nat → Int) (i : Nat) (w : World) (h : Nums w a l (fun i => .int .i64 (F i))) (hl : l ≤ 4096) (hi : i ≤ 4096) :
    Calls Try.prog 16 #[.slice a l c, .int .i64 i] w fun e w' => e = .returned (.int .i64 (clV l F i)) ∧ w = w' := by
  by_cases hlt : i < l
  · obtain ⟨b, off, rfl, hb, hc⟩ := h (by omega)
    have h1 := hc i hlt
    simp only [clV, if_pos hlt]
    clear hc
    go_enter Try.func16, Try.ntmps16
    go_wp2
    go_ret
    exact ⟨rfl, rfl⟩
  · simp only [clV, if_neg hlt]
    go_enter Try.func16, Try.ntmps16
    go_wp2
    go_ret
    exact ⟨rfl, rfl⟩

/-- The least of two, as minF has it. -/
def minB (a b : Nat) : Nat :=
  if (FloatKind.f64.format.order a a != some .eq) = true then a
  else if (FloatKind.f64.format.order b b != some .eq) = true then b
  else if (FloatKind.f64.format.order b a == some .lt) = true then b else a
def maxZ (a b : Int) : Int := if a < b then b else a

set_option maxHeartbeats 1000000 in
theorem minF_any (a b : Nat) (w : World) : Calls Try.prog 11 #[.float .f64 a, .float .f64 b] w fun e w' => e = .returned (.float .f64 (minB a b)) ∧ w = w' := by
  unfold minB
  by_cases h1 : (FloatKind.f64.format.order a a != some .eq) = true
  · rw [if_pos h1]
    go_enter Try.func11, Try.ntmps11
    go_wp2
    go_ret
    exact ⟨rfl, rfl⟩
  rw [if_neg h1]
  have h1' : (FloatKind.f64.format.order a a != some .eq) = false := by simpa using h1
  by_cases h2 : (FloatKind.f64.format.order b b != some .eq) = true
  · rw [if_pos h2]
    go_enter Try.func11, Try.ntmps11
    go_wp2
    go_ret
    exact ⟨rfl, rfl⟩
  rw [if_neg h2]
  have h2' : (FloatKind.f64.format.order b b != some .eq) = false := by simpa using h2
  by_cases h3 : (FloatKind.f64.format.order b a == some .lt) = true
  · rw [if_pos h3]
    go_enter Try.func11, Try.ntmps11
    go_wp2
    go_ret
    exact ⟨rfl, rfl⟩
  · rw [if_neg h3]
    have h3' : (FloatKind.f64.format.order b a == some .lt) = false := by simpa using h3
    go_enter Try.func11, Try.ntmps11
    go_wp2
    go_ret
    exact ⟨rfl, rfl⟩

set_option maxHeartbeats 1000000 in
theorem maxI_any (a b : Int) (w : World) : Calls Try.prog 17 #[.int .i64 a, .int .i64 b] w fun e w' => e = .returned (.int .i64 (maxZ a b)) ∧ w = w' := by
  unfold maxZ
  by_cases h : a < b
  · rw [if_pos h]
    go_enter Try.func17, Try.ntmps17
    go_wp2
    go_ret
    exact ⟨rfl, rfl⟩
  · rw [if_neg h]
    go_enter Try.func17, Try.ntmps17
    go_wp2
    go_ret
    exact ⟨rfl, rfl⟩

set_option maxHeartbeats 1000000 in
theorem sameF_self (a : Nat) (w : World) : Calls Try.prog 12 #[.float .f64 a, .float .f64 a] w fun e w' => e = .returned (.bool true) ∧ w = w' := by
  by_cases h : (FloatKind.f64.format.order a a == some .eq) = true
  · go_enter Try.func12, Try.ntmps12
    go_wp2
    go_ret
    exact ⟨rfl, rfl⟩
  · have h' : (FloatKind.f64.format.order a a == some .eq) = false := by simpa using h
    have h2 : (FloatKind.f64.format.order a a != some .eq) = true := by simp [bne, h']
    go_enter Try.func12, Try.ntmps12
    go_wp2
    go_ret
    exact ⟨rfl, rfl⟩

set_option maxHeartbeats 1000000 in
theorem newStep_any (lk rs : Value) (bw : Nat) (cl hp : Int) (w : World) (hlk : lk.oneCell' = true) (hrs : rs.oneCell' = true) (p1 p2 : Option Addr) (e1 : lk = .pointer p1) (e2 : rs = .pointer p2) :
    Calls Try.prog 15 #[lk, rs, .float .f64 bw, .int .i64 cl, .int .i64 hp] w fun e w' => e = .returned (.pointer (some ⟨w.heap.size, 0, none⟩)) ∧ w' = w.alloc (.cells #[lk, rs, .float .f64 bw, .int .i64 cl, .int .i64 hp] 75) := by
  subst e1 e2
  go_enter Try.func15, Try.ntmps15
  go_wp2
  go_ret
  exact ⟨rfl, rfl⟩

set_option maxHeartbeats 1000000 in
theorem newPaths_any (r s : Nat) (w : World) :
    Calls Try.prog 18 #[.map (some r), .map (some s)] w fun e w' => e = .returned (.pointer (some ⟨w.heap.size, 0, none⟩)) ∧ w' = w.alloc (.cells #[.map (some r), .map (some s)] 72) := by
  go_enter Try.func18, Try.ntmps18
  go_wp2
  go_ret
  exact ⟨rfl, rfl⟩
end Go.Proofs.Qxb6613771a
