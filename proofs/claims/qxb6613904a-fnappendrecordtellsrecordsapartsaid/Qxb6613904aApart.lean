/-
  The walk of 'FnAppendRecordTellsRecordsApart'.
-/
import Derived.Test.Qxb6613904aLens
import Derived.Test.Qxb6613904aSame
namespace Go.Proofs.Qxb6613904a
open Go.RowKit
open Go.Lib (uvarint)
set_option linter.unusedVariables false

/-- The fourteen cells of a record. -/
def At14 (w : World) (g : Nat) (slot pC pN aC aN : Nat) (av ld : ByteArray) (hl : Bool) (seen lC lN lS start : Nat) (mem : ByteArray) : Prop :=
  w.cell? ⟨g, 0, none⟩ = some (.int .u64 slot) ∧ w.cell? ⟨g, 1, none⟩ = some (.int .u64 pC) ∧ w.cell? ⟨g, 2, none⟩ = some (.int .u32 pN) ∧ w.cell? ⟨g, 3, none⟩ = some (.int .u64 aC) ∧ w.cell? ⟨g, 4, none⟩ = some (.int .u32 aN) ∧ w.cell? ⟨g, 5, none⟩ = some (.string av) ∧ w.cell? ⟨g, 6, none⟩ = some (.string ld) ∧ w.cell? ⟨g, 7, none⟩ = some (.bool hl) ∧ w.cell? ⟨g, 8, none⟩ = some (.int .u64 seen) ∧ w.cell? ⟨g, 9, none⟩ = some (.int .u64 lC) ∧ w.cell? ⟨g, 10, none⟩ = some (.int .u32 lN) ∧ w.cell? ⟨g, 11, none⟩ = some (.int .u64 lS) ∧ w.cell? ⟨g, 12, none⟩ = some (.int .u64 start) ∧ w.cell? ⟨g, 13, none⟩ = some (.string mem)
theorem At14.below {w w' : World} {g slot pC pN aC aN : Nat} {av ld : ByteArray} {hl : Bool} {seen lC lN lS start : Nat} {mem : ByteArray} (h : At14 w g slot pC pN aC aN av ld hl seen lC lN lS start mem) (hb : Below w.heap.size w w') : At14 w' g slot pC pN aC aN av ld hl seen lC lN lS start mem := by
  obtain ⟨c0, c1, c2, c3, c4, c5, c6, c7, c8, c9, c10, c11, c12, c13⟩ := h
  exact ⟨keepcell hb c0, keepcell hb c1, keepcell hb c2, keepcell hb c3, keepcell hb c4, keepcell hb c5, keepcell hb c6, keepcell hb c7, keepcell hb c8, keepcell hb c9, keepcell hb c10, keepcell hb c11, keepcell hb c12, keepcell hb c13⟩
theorem At14.new (X : World) {H : Nat} (hH : X.heap.size = H) (slot pC pN aC aN : Nat) (av ld : ByteArray) (hl : Bool) (seen lC lN lS start : Nat) (mem : ByteArray) : At14 (X.alloc (.cells (cells14 slot pC pN aC aN av ld hl seen lC lN lS start mem) 32)) H slot pC pN aC aN av ld hl seen lC lN lS start mem := by
  subst hH
  refine ⟨?_, ?_, ?_, ?_, ?_, ?_, ?_, ?_, ?_, ?_, ?_, ?_, ?_, ?_⟩ <;> simp

theorem Step.nil_below {w w' : World} {v' : Value} (h : Step w (.slice none 0 0) w' v') : Below w.heap.size w w' :=
  ⟨h.1.os, h.1.tape, h.1.output, h.1.size, fun k hk => h.1.block k hk (by simp [Value.ownBlock])⟩
theorem body_pos (r : Rec) : 0 < (body r).length := by
  unfold body
  (repeat' split) <;> simp [bodyStart, bodyMem, bodyLog, bodySlot]

set_option maxRecDepth 100000 in
set_option maxHeartbeats 4000000 in
theorem walk_big (slot pC pN aC aN : Nat) (av ld : ByteArray) (hl : Bool) (seen lC lN lS start : Nat) (mem : ByteArray)
    (slot' pC' pN' aC' aN' : Nat) (av' ld' : ByteArray) (hl' : Bool) (seen' lC' lN' lS' start' : Nat) (mem' : ByteArray) (w : World)
    (hm : mem.size ≤ maxLen) (ha : av.size ≤ maxLen) (hd : ld.size ≤ maxLen) (hm' : mem'.size ≤ maxLen) (ha' : av'.size ≤ maxLen) (hd' : ld'.size ≤ maxLen)
    (hbig : 1048576 < mem.size + av.size + ld.size + mem'.size + av'.size + ld'.size) :
    Calls Try.prog 4 #[.agg (cells14 slot pC pN aC aN av ld hl seen lC lN lS start mem), .agg (cells14 slot' pC' pN' aC' aN' av' ld' hl' seen' lC' lN' lS' start' mem')] w fun e w' => e = .returned (.bool true) ∧ Below w.heap.size w w' := by
  have hb2 := two_below w (.cells (cells14 slot pC pN aC aN av ld hl seen lC lN lS start mem) 32) (.cells (cells14 slot' pC' pN' aC' aN' av' ld' hl' seen' lC' lN' lS' start' mem') 32)
  unfold cells14 at *
  unfold maxLen at hm ha hd hm' ha' hd'
  go_enter Try.func4, Try.ntmps4
  go_wp2_with fail
  refine (bytes10_any slot pC pN aC aN av ld hl seen lC lN lS start mem slot' pC' pN' aC' aN' av' ld' hl' seen' lC' lN' lS' start' mem' _).mono ?_
  rintro e w2 ⟨⟨b, rfl⟩, hb⟩
  have hbw := hb2.trans (hb.mono hb2.size)
  obtain ⟨c0, c1, c2, c3, c4, c5, c6, c7, c8, c9, c10, c11, c12, c13⟩ := ((At14.new w rfl slot pC pN aC aN av ld hl seen lC lN lS start mem).below ((Below.refl _ _).alloc (Nat.le_refl _) (.cells (cells14 slot' pC' pN' aC' aN' av' ld' hl' seen' lC' lN' lS' start' mem') 32))).below hb
  obtain ⟨d0, d1, d2, d3, d4, d5, d6, d7, d8, d9, d10, d11, d12, d13⟩ := (At14.new (w.alloc (.cells (cells14 slot pC pN aC aN av ld hl seen lC lN lS start mem) 32)) (H := w.heap.size + 1) (by simp) slot' pC' pN' aC' aN' av' ld' hl' seen' lC' lN' lS' start' mem').below hb
  cases b
  · go_wp2
    go_ret
    exact ⟨rfl, hbw⟩
  go_wp2
  all_goals (go_ret; exact ⟨rfl, hbw⟩)

set_option maxRecDepth 100000 in
set_option maxHeartbeats 8000000 in
theorem walk_small (slot pC pN aC aN : Nat) (av ld : ByteArray) (hl : Bool) (seen lC lN lS start : Nat) (mem : ByteArray)
    (slot' pC' pN' aC' aN' : Nat) (av' ld' : ByteArray) (hl' : Bool) (seen' lC' lN' lS' start' : Nat) (mem' : ByteArray) (w : World)
    (hf : Fits ⟨slot, pC, pN, aC, aN, av, ld, hl, seen, lC, lN, lS, start, mem⟩) (hf' : Fits ⟨slot', pC', pN', aC', aN', av', ld', hl', seen', lC', lN', lS', start', mem'⟩)
    (hsm : mem.size + av.size + ld.size + mem'.size + av'.size + ld'.size ≤ 1048576) :
    Calls Try.prog 4 #[.agg (cells14 slot pC pN aC aN av ld hl seen lC lN lS start mem), .agg (cells14 slot' pC' pN' aC' aN' av' ld' hl' seen' lC' lN' lS' start' mem')] w fun e w' => e = .returned (.bool true) ∧ Below w.heap.size w w' := by
  have hb2 := two_below w (.cells (cells14 slot pC pN aC aN av ld hl seen lC lN lS start mem) 32) (.cells (cells14 slot' pC' pN' aC' aN' av' ld' hl' seen' lC' lN' lS' start' mem') 32)
  have hs : Rec.small ⟨slot, pC, pN, aC, aN, av, ld, hl, seen, lC, lN, lS, start, mem⟩ := by unfold Rec.small; simp only []; omega
  have hs' : Rec.small ⟨slot', pC', pN', aC', aN', av', ld', hl', seen', lC', lN', lS', start', mem'⟩ := by unfold Rec.small; simp only []; omega
  obtain ⟨X, hX⟩ : ∃ X, X = body ⟨slot, pC, pN, aC, aN, av, ld, hl, seen, lC, lN, lS, start, mem⟩ := ⟨_, rfl⟩
  obtain ⟨Y, hY⟩ : ∃ Y, Y = body ⟨slot', pC', pN', aC', aN', av', ld', hl', seen', lC', lN', lS', start', mem'⟩ := ⟨_, rfl⟩
  have ca := fun w' (h : w.heap.size ≤ w'.heap.size) => zzappend_any w.heap.size slot pC pN aC aN av ld hl seen lC lN lS start mem hf hs (.slice none 0 0) [] w' (Own.nil _ _) h (by simp)
  have cb := fun w' (h : w.heap.size ≤ w'.heap.size) => zzappend_any w.heap.size slot' pC' pN' aC' aN' av' ld' hl' seen' lC' lN' lS' start' mem' hf' hs' (.slice none 0 0) [] w' (Own.nil _ _) h (by simp)
  have la := reclen_any slot pC pN aC aN av ld hl seen lC lN lS start mem hf hs
  have lb := reclen_any slot' pC' pN' aC' aN' av' ld' hl' seen' lC' lN' lS' start' mem' hf' hs'
  have sa := same_any slot pC pN aC aN av ld hl seen lC lN lS start mem slot' pC' pN' aC' aN' av' ld' hl' seen' lC' lN' lS' start' mem'
  have hsame : same ⟨slot, pC, pN, aC, aN, av, ld, hl, seen, lC, lN, lS, start, mem⟩ ⟨slot', pC', pN', aC', aN', av', ld', hl', seen', lC', lN', lS', start', mem'⟩ = decide (X = Y) := by rw [hX, hY]; exact (body_same _ _).symm
  rw [hsame] at sa
  simp only [List.nil_append, ← hX] at ca
  simp only [List.nil_append, ← hY] at cb
  simp only [r14, ← hX] at la
  simp only [r14, ← hY] at lb
  have hXp : 0 < X.length := by rw [hX]; exact body_pos _
  have hYp : 0 < Y.length := by rw [hY]; exact body_pos _
  clear hX hY hsame
  unfold cells14 at *
  go_enter Try.func4, Try.ntmps4
  go_wp2_with fail
  refine (bytes10_any slot pC pN aC aN av ld hl seen lC lN lS start mem slot' pC' pN' aC' aN' av' ld' hl' seen' lC' lN' lS' start' mem' _).mono ?_
  rintro e w2 ⟨⟨b, rfl⟩, hb⟩
  have hbw := hb2.trans (hb.mono hb2.size)
  have A1 := ((At14.new w rfl slot pC pN aC aN av ld hl seen lC lN lS start mem).below ((Below.refl _ _).alloc (Nat.le_refl _) (.cells (cells14 slot' pC' pN' aC' aN' av' ld' hl' seen' lC' lN' lS' start' mem') 32))).below hb
  have A2 := (At14.new (w.alloc (.cells (cells14 slot pC pN aC aN av ld hl seen lC lN lS start mem) 32)) (H := w.heap.size + 1) (by simp) slot' pC' pN' aC' aN' av' ld' hl' seen' lC' lN' lS' start' mem').below hb
  obtain ⟨c0, c1, c2, c3, c4, c5, c6, c7, c8, c9, c10, c11, c12, c13⟩ := A1
  obtain ⟨d0, d1, d2, d3, d4, d5, d6, d7, d8, d9, d10, d11, d12, d13⟩ := A2
  cases b
  · go_wp2
    go_ret
    exact ⟨rfl, hbw⟩
  go_wp2_with fail
  refine (ca w2 hbw.size).mono ?_
  rintro e w3 ⟨v1, rfl, o1, st1⟩
  have hb3 := st1.nil_below
  have A1 := At14.below ⟨c0, c1, c2, c3, c4, c5, c6, c7, c8, c9, c10, c11, c12, c13⟩ hb3
  have A2 := At14.below ⟨d0, d1, d2, d3, d4, d5, d6, d7, d8, d9, d10, d11, d12, d13⟩ hb3
  have hbw3 := hbw.trans (hb3.mono hbw.size)
  clear c0 c1 c2 c3 c4 c5 c6 c7 c8 c9 c10 c11 c12 c13 d0 d1 d2 d3 d4 d5 d6 d7 d8 d9 d10 d11 d12 d13 hbw st1
  obtain ⟨c0, c1, c2, c3, c4, c5, c6, c7, c8, c9, c10, c11, c12, c13⟩ := A1
  obtain ⟨d0, d1, d2, d3, d4, d5, d6, d7, d8, d9, d10, d11, d12, d13⟩ := A2
  go_wp2_with fail
  refine (cb w3 hbw3.size).mono ?_
  rintro e w4 ⟨v2, rfl, o2, st2⟩
  have hb4 := st2.nil_below
  have A1 := At14.below ⟨c0, c1, c2, c3, c4, c5, c6, c7, c8, c9, c10, c11, c12, c13⟩ hb4
  have A2 := At14.below ⟨d0, d1, d2, d3, d4, d5, d6, d7, d8, d9, d10, d11, d12, d13⟩ hb4
  have hbw4 := hbw3.trans (hb4.mono hbw3.size)
  have o1' := o1.below hb4
  clear c0 c1 c2 c3 c4 c5 c6 c7 c8 c9 c10 c11 c12 c13 d0 d1 d2 d3 d4 d5 d6 d7 d8 d9 d10 d11 d12 d13 hbw3 st2 o1 hb3
  obtain ⟨c0, c1, c2, c3, c4, c5, c6, c7, c8, c9, c10, c11, c12, c13⟩ := A1
  obtain ⟨d0, d1, d2, d3, d4, d5, d6, d7, d8, d9, d10, d11, d12, d13⟩ := A2
  obtain ⟨g1, cap1, hv1, -⟩ := o1'.form hXp
  obtain ⟨g2, cap2, hv2, -⟩ := o2.form hYp
  rw [hv1] at o1' ⊢
  rw [hv2] at o2 ⊢
  clear hv1 hv2
  have S1 := o1'.seg hXp
  have S2 := o2.seg hYp
  have hXl := o1'.len
  have hYl := o2.len
  unfold maxLen at hXl hYl
  clear o1' o2 hb4 hb2
  go_wp2_with fail
  refine (la _).mono ?_
  rintro e w5 ⟨rfl, hb5⟩
  have A1 := At14.below ⟨c0, c1, c2, c3, c4, c5, c6, c7, c8, c9, c10, c11, c12, c13⟩ hb5
  have A2 := At14.below ⟨d0, d1, d2, d3, d4, d5, d6, d7, d8, d9, d10, d11, d12, d13⟩ hb5
  have hbw5 := hbw4.trans (hb5.mono hbw4.size)
  have S1 := S1.below hb5
  have S2 := S2.below hb5
  clear c0 c1 c2 c3 c4 c5 c6 c7 c8 c9 c10 c11 c12 c13 d0 d1 d2 d3 d4 d5 d6 d7 d8 d9 d10 d11 d12 d13 hbw4 hb5
  obtain ⟨c0, c1, c2, c3, c4, c5, c6, c7, c8, c9, c10, c11, c12, c13⟩ := A1
  obtain ⟨d0, d1, d2, d3, d4, d5, d6, d7, d8, d9, d10, d11, d12, d13⟩ := A2
  go_wp2_with fail
  refine (lb _).mono ?_
  rintro e w6 ⟨rfl, hb6⟩
  have A1 := At14.below ⟨c0, c1, c2, c3, c4, c5, c6, c7, c8, c9, c10, c11, c12, c13⟩ hb6
  have A2 := At14.below ⟨d0, d1, d2, d3, d4, d5, d6, d7, d8, d9, d10, d11, d12, d13⟩ hb6
  have hbw6 := hbw5.trans (hb6.mono hbw5.size)
  have S1 := S1.below hb6
  have S2 := S2.below hb6
  clear c0 c1 c2 c3 c4 c5 c6 c7 c8 c9 c10 c11 c12 c13 d0 d1 d2 d3 d4 d5 d6 d7 d8 d9 d10 d11 d12 d13 hbw5 hb6
  obtain ⟨c0, c1, c2, c3, c4, c5, c6, c7, c8, c9, c10, c11, c12, c13⟩ := A1
  obtain ⟨d0, d1, d2, d3, d4, d5, d6, d7, d8, d9, d10, d11, d12, d13⟩ := A2
  have SD1 := S1.below (Below.refl _ _).drew
  have SD2 := S2.below (Below.refl _ _).drew
  go_upto_region 11 with fail
  go_region_held3 (fun w' => w'.cell? ⟨w.heap.size, 0, none⟩ = some (.int .u64 slot) ∧ w'.cell? ⟨w.heap.size, 1, none⟩ = some (.int .u64 pC) ∧ w'.cell? ⟨w.heap.size, 2, none⟩ = some (.int .u32 pN) ∧ w'.cell? ⟨w.heap.size, 3, none⟩ = some (.int .u64 aC) ∧ w'.cell? ⟨w.heap.size, 4, none⟩ = some (.int .u32 aN) ∧ w'.cell? ⟨w.heap.size, 5, none⟩ = some (.string av) ∧ w'.cell? ⟨w.heap.size, 6, none⟩ = some (.string ld) ∧ w'.cell? ⟨w.heap.size, 7, none⟩ = some (.bool hl) ∧ w'.cell? ⟨w.heap.size, 8, none⟩ = some (.int .u64 seen) ∧ w'.cell? ⟨w.heap.size, 9, none⟩ = some (.int .u64 lC) ∧ w'.cell? ⟨w.heap.size, 10, none⟩ = some (.int .u32 lN) ∧ w'.cell? ⟨w.heap.size, 11, none⟩ = some (.int .u64 lS) ∧ w'.cell? ⟨w.heap.size, 12, none⟩ = some (.int .u64 start) ∧ w'.cell? ⟨w.heap.size, 13, none⟩ = some (.string mem) ∧ w'.cell? ⟨w.heap.size + 1, 0, none⟩ = some (.int .u64 slot') ∧ w'.cell? ⟨w.heap.size + 1, 1, none⟩ = some (.int .u64 pC') ∧ w'.cell? ⟨w.heap.size + 1, 2, none⟩ = some (.int .u32 pN') ∧ w'.cell? ⟨w.heap.size + 1, 3, none⟩ = some (.int .u64 aC') ∧ w'.cell? ⟨w.heap.size + 1, 4, none⟩ = some (.int .u32 aN') ∧ w'.cell? ⟨w.heap.size + 1, 5, none⟩ = some (.string av') ∧ w'.cell? ⟨w.heap.size + 1, 6, none⟩ = some (.string ld') ∧ w'.cell? ⟨w.heap.size + 1, 7, none⟩ = some (.bool hl') ∧ w'.cell? ⟨w.heap.size + 1, 8, none⟩ = some (.int .u64 seen') ∧ w'.cell? ⟨w.heap.size + 1, 9, none⟩ = some (.int .u64 lC') ∧ w'.cell? ⟨w.heap.size + 1, 10, none⟩ = some (.int .u32 lN') ∧ w'.cell? ⟨w.heap.size + 1, 11, none⟩ = some (.int .u64 lS') ∧ w'.cell? ⟨w.heap.size + 1, 12, none⟩ = some (.int .u64 start') ∧ w'.cell? ⟨w.heap.size + 1, 13, none⟩ = some (.string mem')) (first | (go_split_ands; (repeat' apply And.intro) <;> with_reducible assumption) | (go_split_ands; (repeat' apply And.intro) <;> (refine keepcell hbk ?_; with_reducible assumption)) | go_keep)
    (first | (go_at_call 9; refine (byteseq_any _ _ X Y _ SD1 SD2).mono ?_; rintro e wk ⟨rfl, hbk⟩; have hbk1 := hbk) | (go_at_call 12; refine (sa _).mono ?_; rintro e wk ⟨rfl, hbk⟩))
  go_wp2
  go_ret
  refine ⟨fin_bool (by simp), ?_⟩
  have hq := (Below.refl w6.heap.size w6).drew.trans hbk1
  have hq2 := hq.trans (hbk.mono hq.size)
  exact hbw6.trans (hq2.mono hbw6.size)

theorem walk (slot pC pN aC aN : Nat) (av ld : ByteArray) (hl : Bool) (seen lC lN lS start : Nat) (mem : ByteArray)
    (slot' pC' pN' aC' aN' : Nat) (av' ld' : ByteArray) (hl' : Bool) (seen' lC' lN' lS' start' : Nat) (mem' : ByteArray) (w : World)
    (hf : Fits ⟨slot, pC, pN, aC, aN, av, ld, hl, seen, lC, lN, lS, start, mem⟩) (hf' : Fits ⟨slot', pC', pN', aC', aN', av', ld', hl', seen', lC', lN', lS', start', mem'⟩)
    (hm : mem.size ≤ maxLen) (ha : av.size ≤ maxLen) (hd : ld.size ≤ maxLen) (hm' : mem'.size ≤ maxLen) (ha' : av'.size ≤ maxLen) (hd' : ld'.size ≤ maxLen) :
    Calls Try.prog 4 #[.agg (cells14 slot pC pN aC aN av ld hl seen lC lN lS start mem), .agg (cells14 slot' pC' pN' aC' aN' av' ld' hl' seen' lC' lN' lS' start' mem')] w fun e w' => e = .returned (.bool true) ∧ Below w.heap.size w w' := by
  by_cases h : mem.size + av.size + ld.size + mem'.size + av'.size + ld'.size ≤ 1048576
  · exact walk_small slot pC pN aC aN av ld hl seen lC lN lS start mem slot' pC' pN' aC' aN' av' ld' hl' seen' lC' lN' lS' start' mem' w hf hf' h
  · exact walk_big slot pC pN aC aN av ld hl seen lC lN lS start mem slot' pC' pN' aC' aN' av' ld' hl' seen' lC' lN' lS' start' mem' w hm ha hd hm' ha' hd' (by omega)
end Go.Proofs.Qxb6613904a
