/-
  The leaves of the road of 'FnIsStringAfterInsert': contracts of zzBytes_.., ZZNoTokens, ZZMakeToken, isString, ZZReaderIsString.
-/
import Derived.Test.Qxb6613816aRows
import Derived.WalkKit
import Derived.ProofKit
import Derived.Below
import Derived.Outline
import Derived.WalkLawsBesides
import Derived.WalkSpells
import Derived.Deep.QuietTactic
import Derived.BigQuiet
namespace Go.Proofs.Qxb6613816a
open Go.ChangeShapes Go.WideShapes Go.ChangeAt Go.RowKit
set_option linter.unusedVariables false

/-- It returned a bool. -/
def RetBool (e : Ending) : Prop := ∃ b, e = .returned (.bool b)

/-- What the walk is told of the tokens that came in: where there is one, they lie at an address; token i's two cells. -/
def Toks (w : World) (a : Option Addr) (len : Nat) (K : Nat → Int) (T : Nat → ByteArray) : Prop :=
  0 < len → ∃ b off, a = some ⟨b, off, none⟩ ∧ b < w.heap.size ∧ ∀ i, i < len → w.cell? ⟨b, off + i * 2, none⟩ = some (.int .i64 (K i)) ∧ w.cell? ⟨b, off + i * 2 + 1, none⟩ = some (.string (T i))

theorem Toks.below {w w' : World} {a : Option Addr} {len : Nat} {K : Nat → Int} {T : Nat → ByteArray} (h : Toks w a len K T) (hb : Below w.heap.size w w') : Toks w' a len K T := by
  intro hl
  obtain ⟨b, off, ha, hlt, hc⟩ := h hl
  exact ⟨b, off, ha, Nat.lt_of_lt_of_le hlt hb.size, fun i hi => ⟨(hb.cell (p := ⟨b, _, none⟩) hlt).trans (hc i hi).1, (hb.cell (p := ⟨b, _, none⟩) hlt).trans (hc i hi).2⟩⟩

set_option maxHeartbeats 400000 in
theorem noToks_any (w : World) : Calls Try.prog 6 #[] w fun e w' => e = .returned (.slice none 0 0) ∧ w = w' := by
  go_enter Try.func6, Try.ntmps6
  go_wp2
  go_ret
  exact ⟨rfl, rfl⟩

set_option maxHeartbeats 400000 in
theorem makeTok_any (k : Int) (s : ByteArray) (w : World) : Calls Try.prog 7 #[.int .i64 k, .string s] w fun e w' => e = .returned (.agg #[.int .i64 k, .string s]) ∧ w' = w.alloc (.cells #[.int .i64 k, .string s] 31) := by
  go_enter Try.func7, Try.ntmps7
  go_wp2
  exact bodyPost_ret (v := .agg #[.int .i64 k, .string s]) (by simp [results, Try.results7, go_sem]) rfl ⟨rfl, rfl⟩

set_option maxHeartbeats 1000000 in
theorem bytes_any (a0 : Option Addr) (len0 cap0 : Nat) (K : Nat → Int) (T : Nat → ByteArray) (a1 : Option Addr) (len1 cap1 : Nat) (p : Int) (tk : Int) (tt : ByteArray) (w : World)
    (h0 : Toks w a0 len0 K T) (hl : len0 ≤ maxLen) :
    Calls Try.prog 5 #[.slice a0 len0 cap0, .slice a1 len1 cap1, .int .i64 p, .agg #[.int .i64 tk, .string tt]] w fun e w' => RetBool e ∧ Below w.heap.size w w' := by
  unfold maxLen at hl
  go_enter Try.func5, Try.ntmps5
  go_wp2
  · go_ret; exact ⟨⟨_, rfl⟩, (Below.refl _ _).alloc (Nat.le_refl _) _⟩
  go_loop [9, 10] (fun z i => ∃ (k : Nat) (n : Int), k ≤ len0 ∧ i = .int .i64 k ∧ z = .int .i64 n) (fun _ i => len0 - (intOf i).toNat)
  case atStart => exact ⟨0, _, Nat.zero_le _, rfl, rfl⟩
  case round =>
    obtain ⟨k, n, hk, rfl, rfl⟩ := hrel
    by_cases hlt : k < len0
    · obtain ⟨b, off, rfl, hb, hc⟩ := h0 (by omega)
      have h1 := (hc k hlt).1
      have h2 := (hc k hlt).2
      clear hc
      go_wp2
      · go_ret; exact ⟨⟨_, rfl⟩, (Below.refl _ _).alloc (Nat.le_refl _) _⟩
      · go_ret; exact ⟨⟨_, rfl⟩, (Below.refl _ _).alloc (Nat.le_refl _) _⟩
      go_round
      case rel => exact ⟨k + 1, _, by omega, by go_num, rfl⟩
      case measure => simp [intOf]; omega
    · go_wp2
      all_goals (go_ret; exact ⟨⟨_, rfl⟩, (Below.refl _ _).alloc (Nat.le_refl _) _⟩)

def isStrB (n : Nat) (K : Nat → Int) (i : Int) : Bool := decide (0 ≤ i) && (decide (i < n) && (K i.toNat == 2))
theorem isStr_lo {n : Nat} {K : Nat → Int} {i : Int} (h : i < 0) : isStrB n K i = false := by
  have : ¬ 0 ≤ i := by omega
  simp [isStrB, this]
theorem isStr_hi {n : Nat} {K : Nat → Int} {i : Int} (h : (n : Int) ≤ i) : isStrB n K i = false := by
  have : ¬ i < n := by omega
  simp [isStrB, this]
theorem isStr_in {n : Nat} {K : Nat → Int} {k : Nat} (h : k < n) : isStrB n K k = (K k == 2) := by
  simp [isStrB, h]

set_option maxHeartbeats 1000000 in
theorem isString_any (ao : Option Addr) (n cap : Nat) (K : Nat → Int) (T : Nat → ByteArray) (a1 : Option Addr) (l1 c1 : Nat) (i : Int) (w : World) (h : Toks w ao n K T) (hl : n ≤ maxLen) :
    Calls Try.prog 10 #[.agg #[.slice ao n cap, .slice a1 l1 c1], .int .i64 i] w fun e w' => e = .returned (.bool (isStrB n K i)) ∧ Below w.heap.size w w' := by
  unfold maxLen at hl
  by_cases hlo : i < 0
  · rw [isStr_lo hlo]
    go_enter Try.func10, Try.ntmps10
    go_wp2
    go_ret
    exact ⟨rfl, (Below.refl _ _).alloc (Nat.le_refl _) _⟩
  by_cases hhi : (n : Int) ≤ i
  · rw [isStr_hi hhi]
    go_enter Try.func10, Try.ntmps10
    go_wp2
    go_ret
    exact ⟨rfl, (Below.refl _ _).alloc (Nat.le_refl _) _⟩
  obtain ⟨k, rfl⟩ : ∃ k : Nat, i = k := ⟨i.toNat, by omega⟩
  have hk : k < n := by omega
  obtain ⟨b, off, rfl, hb, hc⟩ := h (by omega)
  have h1 := (hc k hk).1
  clear hc
  have hne : b ≠ w.heap.size := by omega
  rw [isStr_in hk]
  go_enter Try.func10, Try.ntmps10
  go_wp2
  go_ret
  exact ⟨rfl, (Below.refl _ _).alloc (Nat.le_refl _) _⟩

set_option maxHeartbeats 1000000 in
theorem readerIsString_any (ao : Option Addr) (n cap : Nat) (K : Nat → Int) (T : Nat → ByteArray) (a1 : Option Addr) (l1 c1 : Nat) (i : Int) (w : World) (h : Toks w ao n K T) (hl : n ≤ maxLen) :
    Calls Try.prog 8 #[.slice ao n cap, .slice a1 l1 c1, .int .i64 i] w fun e w' => e = .returned (.bool (isStrB n K i)) ∧ Below w.heap.size w w' := by
  go_enter Try.func8, Try.ntmps8
  go_wp2_with fail
  refine (isString_any ao n cap K T a1 l1 c1 i _ h hl).mono ?_
  rintro e w' ⟨rfl, hb⟩
  go_wp2
  go_ret
  exact ⟨rfl, hb⟩
end Go.Proofs.Qxb6613816a
