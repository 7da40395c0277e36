/-
  zzSameRecord, zzBytesEq, the byte counts.
-/
import Derived.Test.Qxb6613904aZz
import Derived.Deep.Light
namespace Go.Proofs.Qxb6613904a
open Go.RowKit
open Go.Lib (uvarint)
set_option linter.unusedVariables false

def RetBool (e : Ending) : Prop := ∃ b, e = .returned (.bool b)

set_option maxRecDepth 100000 in
set_option maxHeartbeats 4000000 in
theorem bytes10_any (slot pC pN aC aN : Nat) (av ld : ByteArray) (hl : Bool) (seen lC lN lS start : Nat) (mem : ByteArray)
    (slot' pC' pN' aC' aN' : Nat) (av' ld' : ByteArray) (hl' : Bool) (seen' lC' lN' lS' start' : Nat) (mem' : ByteArray) (w : World) :
    Calls Try.prog 10 #[.agg (cells14 slot pC pN aC aN av ld hl seen lC lN lS start mem), .agg (cells14 slot' pC' pN' aC' aN' av' ld' hl' seen' lC' lN' lS' start' mem')] w
      fun e w' => RetBool e ∧ Below w.heap.size w w' := by
  have hb1 : Below w.heap.size w ((w.alloc (.cells (cells14 slot pC pN aC aN av ld hl seen lC lN lS start mem) 32)).alloc (.cells (cells14 slot' pC' pN' aC' aN' av' ld' hl' seen' lC' lN' lS' start' mem') 32)) := ((Below.refl _ _).alloc (Nat.le_refl _) _).alloc (by simp) _
  unfold cells14 at *
  go_enter Try.func10, Try.ntmps10
  go_wp2
  all_goals (go_ret; exact ⟨⟨_, rfl⟩, hb1⟩)

/-- The bytes xs lie behind the slice value v. -/
def Seg (w : World) (v : Value) (xs : List UInt8) : Prop :=
  ∃ g off cap, v = .slice (some ⟨g, off, none⟩) xs.length cap ∧ g < w.heap.size ∧ xs.length ≤ 9223372036854775807 ∧ ∀ j (hj : j < xs.length), w.cell? ⟨g, off + j, none⟩ = some (.int .u8 (xs[j].toNat))
theorem Own.seg {B : Nat} {w : World} {v : Value} {xs : List UInt8} (h : Own B w v xs) (hp : 0 < xs.length) : Seg w v xs := by
  obtain ⟨g, cap, hv, hg, h1, h2, hc⟩ := h.form hp
  exact ⟨g, 0, cap, hv, hg, by unfold maxLen at h2; omega, fun j hj => by rw [Nat.zero_add]; exact hc j hj⟩
theorem Seg.below {w w' : World} {v : Value} {xs : List UInt8} (h : Seg w v xs) (hb : Below w.heap.size w w') : Seg w' v xs := by
  obtain ⟨g, off, cap, hv, hg, h1, hc⟩ := h
  exact ⟨g, off, cap, hv, Nat.lt_of_lt_of_le hg hb.size, h1, fun j hj => (hb.cell (p := ⟨g, off + j, none⟩) hg).trans (hc j hj)⟩

theorem take_more {xs ys : List UInt8} {k : Nat} (h1 : k < xs.length) (h2 : k < ys.length) (h : xs.take k = ys.take k) (e : xs[k].toNat = ys[k].toNat) : xs.take (k + 1) = ys.take (k + 1) := by
  rw [List.take_succ_eq_append_getElem h1, List.take_succ_eq_append_getElem h2, h, UInt8.toNat_inj.1 e]
theorem ne_at {xs ys : List UInt8} {k : Nat} (h1 : k < xs.length) (h2 : k < ys.length) (e : xs[k].toNat ≠ ys[k].toNat) : decide (xs = ys) = false := by
  have : xs ≠ ys := by
    rintro rfl
    exact e rfl
  simp [this]
theorem eq_all {xs ys : List UInt8} {k : Nat} (hl : xs.length = ys.length) (hk : xs.length ≤ k) (h : xs.take k = ys.take k) : decide (xs = ys) = true := by
  rw [List.take_of_length_le hk, List.take_of_length_le (by omega)] at h
  simp [h]
theorem ne_len {xs ys : List UInt8} (hl : xs.length ≠ ys.length) : decide (xs = ys) = false := by
  have : xs ≠ ys := by
    rintro rfl
    exact hl rfl
  simp [this]

set_option maxRecDepth 100000 in
set_option maxHeartbeats 4000000 in
theorem byteseq_any (v u : Value) (xs ys : List UInt8) (w : World) (hx : Seg w v xs) (hy : Seg w u ys) :
    Calls Try.prog 9 #[v, u] w fun e w' => e = .returned (.bool (decide (xs = ys))) ∧ Below w.heap.size w w' := by
  obtain ⟨g, off, cap, rfl, hg, hc2, hcx⟩ := hx
  obtain ⟨g', off', cap', rfl, hg', hc2', hcy⟩ := hy
  by_cases hl : xs.length = ys.length
  · have hl' : ((xs.length : Int) != (ys.length : Int)) = false := by simp; omega
    have HL : Hid (xs.length = ys.length) := hl
    clear hl
    go_enter Try.func9, Try.ntmps9
    go_wp2
    go_loopw [5] (fun i wr => ∃ k : Nat, k ≤ xs.length ∧ i = .int .i64 k ∧ xs.take k = ys.take k ∧ Below w.heap.size w wr) (fun i _ => xs.length - (intOf i).toNat)
    case atStart => exact ⟨0, Nat.zero_le _, rfl, rfl, Below.refl _ _⟩
    case round =>
      obtain ⟨k, hk, rfl, htk, hbr⟩ := hrel
      by_cases hlt : k < xs.length
      · have hlt' : k < ys.length := by have := HL.out; omega
        have c1 : wr.cell? ⟨g, off + k, none⟩ = some (.int .u8 (xs[k].toNat)) := (hbr.cell (p := ⟨g, off + k, none⟩) hg).trans (hcx k hlt)
        have c2 : wr.cell? ⟨g', off' + k, none⟩ = some (.int .u8 (ys[k].toNat)) := (hbr.cell (p := ⟨g', off' + k, none⟩) hg').trans (hcy k hlt')
        obtain ⟨a, ha⟩ : ∃ a, a = xs[k].toNat := ⟨_, rfl⟩
        obtain ⟨b, hb⟩ : ∃ b, b = ys[k].toNat := ⟨_, rfl⟩
        rw [← ha] at c1
        rw [← hb] at c2
        have HA : Hid (a = xs[k].toNat) := ha
        have HB : Hid (b = ys[k].toNat) := hb
        have HT : Hid (xs.take k = ys.take k) := htk
        clear ha hb htk hcx hcy
        have z1 : (0 : Int) ≤ (k : Int) := by omega
        have z2 : (k : Int) < (xs.length : Int) := by omega
        have z3 : (k : Int) < (ys.length : Int) := by omega
        go_wp2
        go_quiet (fail)
        go_wp2
        · go_ret
          have hab : ((a : Int) != (b : Int)) = true := by assumption
          have e := ne_at hlt hlt' (by have := HA.out; have := HB.out; simp at hab; omega)
          rw [e]
          exact ⟨rfl, below_drewN hbr nq⟩
        · have hab : ((a : Int) != (b : Int)) = false := by assumption
          go_roundw
          case rel => exact ⟨k + 1, by omega, by go_num, take_more hlt hlt' HT.out (by have := HA.out; have := HB.out; simp at hab; omega), below_drewN hbr nq⟩
          case measure => simp [intOf]; omega
      · have e := eq_all HL.out (by omega) htk
        clear htk hcx hcy
        go_wp2
        go_ret
        rw [e]
        exact ⟨rfl, hbr⟩
  · have hl' : ((xs.length : Int) != (ys.length : Int)) = true := by simp; omega
    rw [ne_len hl]
    clear hl
    go_enter Try.func9, Try.ntmps9
    go_wp2
    go_ret
    exact ⟨rfl, Below.refl _ _⟩

theorem two_below (W : World) (a b : Obj) : Below W.heap.size W ((W.alloc a).alloc b) := ((Below.refl _ _).alloc (Nat.le_refl _) a).alloc (by simp) b
theorem four_below (W : World) (a b c d : Obj) : Below W.heap.size W ((((W.alloc a).alloc b).alloc c).alloc d) := ((two_below W a b).alloc (by simp; omega) c).alloc (by simp; omega) d

theorem fin_bool {b c : Bool} (h : b = c) : Ending.returned (.bool b) = .returned (.bool c) := by rw [h]

theorem same_start {r q : Rec} (h : r.start ≠ 0 ∨ q.start ≠ 0) : same r q = decide (r.start = q.start) := by unfold same; rw [if_pos h]
theorem same_mem {r q : Rec} (h0 : r.start = 0) (h1 : q.start = 0) (h : sb r.mem ≠ [] ∨ sb q.mem ≠ []) : same r q = decide (sb r.mem = sb q.mem) := by
  unfold same; rw [if_neg (by omega), if_pos h]
theorem same_log {r q : Rec} (h0 : r.start = 0) (h1 : q.start = 0) (h2 : sb r.mem = []) (h3 : sb q.mem = []) (h : r.slot = 0 ∨ q.slot = 0) :
    same r q = (decide (r.slot = q.slot) && (decide (r.lC = q.lC) && (decide (r.lN = q.lN) && decide (r.lS = q.lS)))) := by
  unfold same; rw [if_neg (by omega), if_neg (by simp [h2, h3]), if_pos h]
theorem same_slot {r q : Rec} (h0 : r.start = 0) (h1 : q.start = 0) (h2 : sb r.mem = []) (h3 : sb q.mem = []) (h : ¬ (r.slot = 0 ∨ q.slot = 0)) :
    same r q = if r.slot ≠ q.slot ∨ r.pC ≠ q.pC ∨ r.pN ≠ q.pN ∨ r.aC ≠ q.aC ∨ r.aN ≠ q.aN ∨ sb r.av ≠ sb q.av ∨ r.seen ≠ q.seen ∨ r.hl ≠ q.hl then false else !r.hl || decide (sb r.ld = sb q.ld) := by
  unfold same; rw [if_neg (by omega), if_neg (by simp [h2, h3]), if_neg h]

set_option maxRecDepth 100000 in
set_option maxHeartbeats 4000000 in
theorem same_any (slot pC pN aC aN : Nat) (av ld : ByteArray) (hl : Bool) (seen lC lN lS start : Nat) (mem : ByteArray)
    (slot' pC' pN' aC' aN' : Nat) (av' ld' : ByteArray) (hl' : Bool) (seen' lC' lN' lS' start' : Nat) (mem' : ByteArray) (w : World) :
    Calls Try.prog 12 #[.agg (cells14 slot pC pN aC aN av ld hl seen lC lN lS start mem), .agg (cells14 slot' pC' pN' aC' aN' av' ld' hl' seen' lC' lN' lS' start' mem')] w
      fun e w' => e = .returned (.bool (same ⟨slot, pC, pN, aC, aN, av, ld, hl, seen, lC, lN, lS, start, mem⟩ ⟨slot', pC', pN', aC', aN', av', ld', hl', seen', lC', lN', lS', start', mem'⟩)) ∧ Below w.heap.size w w' := by
  unfold cells14
  go_enter Try.func12, Try.ntmps12
  go_wp2
  all_goals go_ret
  all_goals refine ⟨?_, ?_⟩
  all_goals try (first | with_reducible exact two_below _ _ _ | with_reducible exact four_below _ _ _ _ _)
  all_goals refine fin_bool ?_
  all_goals go_light
  all_goals (first | (simp_all [same, ← sb_toList]; done) | (rw [Bool.eq_iff_iff]; simp_all [same, ← sb_toList]; done) | (rw [Bool.eq_iff_iff]; simp_all [same, ← sb_toList]; omega) | (simp_all [same, ← sb_toList]; split <;> (try intros) <;> omega))
end Go.Proofs.Qxb6613904a
