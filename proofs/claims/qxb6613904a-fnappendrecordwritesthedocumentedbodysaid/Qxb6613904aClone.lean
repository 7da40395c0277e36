/-
  zzClone; the byte count of the first law; zzRecordReadsAs in one.
-/
import Derived.Test.Qxb6613904aReads
namespace Go.Proofs.Qxb6613904a
open Go.RowKit
open Go.Lib (uvarint)
set_option linter.unusedVariables false

theorem reads_any (slot pC pN aC aN : Nat) (av ld : ByteArray) (hl : Bool) (seen lC lN lS start : Nat) (mem : ByteArray) (v : Value) (w : World)
    (hf : Fits ⟨slot, pC, pN, aC, aN, av, ld, hl, seen, lC, lN, lS, start, mem⟩) (hsm : Rec.small ⟨slot, pC, pN, aC, aN, av, ld, hl, seen, lC, lN, lS, start, mem⟩) (hs : Seg w v (body ⟨slot, pC, pN, aC, aN, av, ld, hl, seen, lC, lN, lS, start, mem⟩)) :
    Calls Try.prog 8 #[v, .agg (cells14 slot pC pN aC aN av ld hl seen lC lN lS start mem)] w fun e w' => e = .returned (.bool true) ∧ Below w.heap.size w w' := by
  obtain ⟨f0, f1, f2, f3, f4, f5, f6, f7, f8, f9⟩ := hf
  unfold Rec.small at hsm
  unfold body at hs
  simp only [] at hs hsm f0 f1 f2 f3 f4 f5 f6 f7 f8 f9
  by_cases h1 : start ≠ 0
  · rw [if_pos h1] at hs
    exact reads_start slot pC pN aC aN av ld hl seen lC lN lS start mem v w h1 f9 hs
  rw [if_neg h1] at hs
  have h1' : start = 0 := by omega
  by_cases h2 : sb mem ≠ []
  · rw [if_pos h2] at hs
    exact reads_mem slot pC pN aC aN av ld hl seen lC lN lS start mem v w h1' h2 (by omega) hs
  rw [if_neg h2] at hs
  have h2' : sb mem = [] := Classical.not_not.1 h2
  by_cases h3 : slot = 0
  · rw [if_pos h3] at hs
    exact reads_log slot pC pN aC aN av ld hl seen lC lN lS start mem v w h1' h2' h3 f6 f7 f8 hs
  · rw [if_neg h3] at hs
    exact reads_slot slot pC pN aC aN av ld hl seen lC lN lS start mem v w h1' h2' h3 f0 f1 f2 f3 f4 f5 (by omega) (by omega) hs

set_option maxRecDepth 100000 in
set_option maxHeartbeats 4000000 in
theorem bytes5_any (a : Option Addr) (len cap : Nat) (slot pC pN aC aN : Nat) (av ld : ByteArray) (hl : Bool) (seen lC lN lS start : Nat) (mem : ByteArray) (w : World) :
    Calls Try.prog 5 #[.slice a len cap, .agg (cells14 slot pC pN aC aN av ld hl seen lC lN lS start mem)] w
      fun e w' => RetBool e ∧ Below w.heap.size w w' := by
  have hb1 : Below w.heap.size w (w.alloc (.cells (cells14 slot pC pN aC aN av ld hl seen lC lN lS start mem) 32)) := (Below.refl _ _).alloc (Nat.le_refl _) _
  unfold cells14 at *
  go_enter Try.func5, Try.ntmps5
  go_wp2
  all_goals (go_ret; exact ⟨⟨_, rfl⟩, hb1⟩)

/-- The bytes of a slice that is nil, or leads to them. -/
def Byt (w : World) (v : Value) (xs : List UInt8) : Prop :=
  (v = .slice none 0 0 ∧ xs = []) ∨ ∃ ad cap, v = .slice (some ad) xs.length cap ∧ ∀ j (hj : j < xs.length), w.cell? (ad.add j) = some (.int .u8 (xs[j].toNat))

theorem all_set {ys : List Value} {xs : List UInt8} {k : Nat} (hl : ys.length = xs.length) (hk : k < xs.length) (h : ∀ j (hj : j < k) (hx : j < xs.length), ys[j]? = some (.int .u8 (xs[j].toNat))) :
    ∀ j (hj : j < k + 1) (hx : j < xs.length), (ys.set k (.int .u8 (xs[k].toNat)))[j]? = some (.int .u8 (xs[j].toNat)) := by
  intro j hj hx
  by_cases e : j = k
  · subst e
    rw [List.getElem?_set_self (by omega)]
  · rw [List.getElem?_set_ne (by omega)]
    exact h j (by omega) hx
theorem all_eq {ys : List Value} {xs : List UInt8} {k : Nat} (hl : ys.length = xs.length) (hk : xs.length ≤ k) (h : ∀ j (hj : j < k) (hx : j < xs.length), ys[j]? = some (.int .u8 (xs[j].toNat))) : ys = Lib.byteCells xs := by
  apply List.ext_getElem?
  intro j
  by_cases hj : j < xs.length
  · rw [h j (by omega) hj]
    simp [Lib.byteCells, hj]
  · rw [List.getElem?_eq_none (by omega), List.getElem?_eq_none (by simp [Lib.byteCells]; omega)]

set_option maxRecDepth 100000 in
set_option maxHeartbeats 4000000 in
theorem clone_any (B : Nat) (v : Value) (xs : List UInt8) (w : World) (hv : Byt w v xs) (hl : xs.length ≤ 1048576) (hB : B ≤ w.heap.size) :
    Calls Try.prog 6 #[v] w fun e w' => ∃ v', e = .returned v' ∧ Own B w' v' xs ∧ Below w.heap.size w w' ∧ ∀ k, v'.ownBlock = some k → w.heap.size ≤ k := by
  have heq := fun (w : World) (a : Option Addr) (l c : Nat) => Lib.run_eql_slice_nil (P := Try.prog) w 22 5 a l c 0 0 Try.underlying22
  rcases hv with ⟨rfl, rfl⟩ | ⟨ad, cap, rfl, hc⟩
  · go_enter Try.func6, Try.ntmps6
    go_wp2
    go_ret
    exact ⟨_, rfl, Own.nil _ _, Below.refl _ _, fun k hk => by simp [Value.ownBlock] at hk⟩
  · obtain ⟨i0, hi, hz0, hz1, hz2⟩ := info_parts Try.info5
    obtain ⟨n, hn⟩ : ∃ n, n = xs.length := ⟨_, rfl⟩
    have HN : Hid (n = xs.length) := hn
    rw [← hn] at hl ⊢
    have hby : i0.bytes * n ≤ 281474976710656 := by rw [hz2]; omega
    have hml : n ≤ maxLen := by unfold maxLen; omega
    clear hn
    go_enter Try.func6, Try.ntmps6
    go_wp2_with (first | (at_make; refine wpList_make_full _ (by rfl) (.tmp 8) (.tmp 8) 22 (by rfl) B 5 i0 (.int .u8 0) 1 Try.underlying22 hi hz0 hz1 .i64 .i64 n n n (by rfl) (by rfl) (by rfl) (by rfl) hby hml hB ?_; intro w3 hown3 hgr3))
    have hb3 := (Below.refl w.heap.size w).grown hgr3 (Nat.le_refl _) (fun _ h => by cases h)
    go_loopw [4] (fun i wr => ∃ (k : Nat) (ys : List Value), k ≤ n ∧ i = .int .i64 k ∧ wr.ownsRow B 5 1 (.slice (some ⟨w.heap.size, 0, none⟩) n n) n ys ∧ Hid (∀ j (hj : j < k) (hx : j < xs.length), ys[j]? = some (.int .u8 (xs[j].toNat))) ∧ Below w.heap.size w wr) (fun i _ => n - (intOf i).toNat)
    case atStart => exact ⟨0, _, Nat.zero_le _, rfl, hown3, (fun j hj _ => absurd hj (by omega) : ∀ j (hj : j < 0) (hx : j < xs.length), _), hb3⟩
    case round =>
      obtain ⟨k, ys, hk, rfl, hown, HY, hbr⟩ := hrel
      have hyl : ys.length = n := by have := hown.1; omega
      by_cases hlt : k < n
      · have hkx : k < xs.length := by have := HN.out; omega
        have h1 := hc k hkx
        obtain ⟨b, off, spot⟩ := ad
        have hspot : spot = none := by simpa [Addr.add] using World.cell?_spot (hc 0 (by omega))
        subst hspot
        rw [Go.WideShapes.add_plain] at h1
        have h2 : wr.cell? ⟨b, off + k, none⟩ = some (.int .u8 (xs[k].toNat)) := (hbr.cell (p := ⟨b, off + k, none⟩) (World.block_lt_of_cell? w _ h1)).trans h1
        obtain ⟨u, hu⟩ : ∃ u, wr.cell? ⟨w.heap.size, k, none⟩ = some u := ⟨ys[k], by rw [hown.cellAt k (by omega)]; exact List.getElem?_eq_getElem (by omega)⟩
        have hfz := hown.frozenAt k
        obtain ⟨c, hcc⟩ : ∃ c, c = xs[k].toNat := ⟨_, rfl⟩
        have hst := hown.stored k (.int .u8 (xs[k].toNat))
        rw [← hcc] at h2 hst
        have HC : Hid (c = xs[k].toNat) := hcc
        clear hcc h1 hc
        go_wp2
        go_roundw
        case rel =>
          refine ⟨k + 1, ys.set k (.int .u8 c), by omega, by go_num, hst.1, ?_, hbr.setCell (Nat.le_refl _) _⟩
          show ∀ j (hj : j < k + 1) (hx : j < xs.length), _
          rw [HC.out]
          exact all_set (by have := HN.out; omega) hkx HY.out
        case measure => simp [intOf]; omega
      · go_wp2
        go_ret
        refine ⟨_, rfl, ?_, hbr, fun k hk => by simp [Value.ownBlock] at hk; omega⟩
        show World.ownsRow _ _ _ _ _ _ _
        rw [← all_eq (by have := HN.out; omega) (by have := HN.out; omega) HY.out, ← HN.out]
        exact hown
end Go.Proofs.Qxb6613904a
