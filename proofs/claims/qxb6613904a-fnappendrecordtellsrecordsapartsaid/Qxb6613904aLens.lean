/-
  The readers of lengths: zzUvarintLen, zzValueLen, zzGenLen, zzRecordLen; the byte counts (some bool).
-/
import Derived.Test.Qxb6613904aZz
namespace Go.Proofs.Qxb6613904a
open Go.RowKit
open Go.Lib (uvarint)
set_option linter.unusedVariables false

set_option maxRecDepth 100000 in
set_option maxHeartbeats 1000000 in
theorem uvlen_any (x : Nat) (hx : x < 18446744073709551616) (w : World) :
    Calls Try.prog 18 #[.int .u64 x] w fun e w' => e = .returned (.int .i64 (uvarint x).length) ∧ w' = w := by
  have hlen := Lib.uvarint_length64 hx
  go_enter Try.func18, Try.ntmps18
  go_wp2
  go_loop [0, 3] (fun vx vn => ∃ y k : Nat, vx = .int .u64 y ∧ vn = .int .i64 k ∧ y ≤ x ∧ k + (uvarint y).length = 1 + (uvarint x).length) (fun vx _ => (intOf vx).toNat)
  case atStart => exact ⟨x, 1, rfl, rfl, Nat.le_refl _, rfl⟩
  case round =>
    obtain ⟨y, k, rfl, rfl, hy, hk⟩ := hrel
    have hyp := Lib.uvarint_pos y
    have hkb : k ≤ 10 := by omega
    have HK : Hid (k + (uvarint y).length = 1 + (uvarint x).length) := hk
    clear hk
    by_cases h128 : 128 ≤ y
    · go_wp2
      go_round
      case rel =>
        have e := congrArg List.length (Lib.uvarint_big h128)
        rw [List.length_cons] at e
        have hk := HK.out
        exact ⟨y / 128, k + 1, by go_num, by go_num, by omega, by omega⟩
      case measure => simp [intOf]; omega
    · go_wp2
      go_ret
      have e := congrArg List.length (Lib.uvarint_small (by omega : y < 128))
      rw [List.length_singleton] at e
      have hk := HK.out
      have e2 : (uvarint x).length = k := by omega
      rw [e2]
      exact ⟨rfl, rfl⟩

set_option maxRecDepth 100000 in
set_option maxHeartbeats 1000000 in
theorem vallen_any (s : ByteArray) (hs : s.size ≤ 1048576) (w : World) :
    Calls Try.prog 19 #[.string s] w fun e w' => e = .returned (.int .i64 (valB s).length) ∧ w' = w := by
  have hx : s.size < 18446744073709551616 := by omega
  have hlen := Lib.uvarint_length64 hx
  go_enter Try.func19, Try.ntmps19
  go_wp2_with fail
  refine (uvlen_any s.size hx w).mono ?_
  rintro e w' ⟨rfl, rfl⟩
  go_wp2
  go_ret
  refine ⟨?_, rfl⟩
  have e : (valB s).length = (uvarint s.size).length + s.size := by rw [valB, List.length_append, sb_length]
  rw [e]
  simp

set_option maxRecDepth 100000 in
set_option maxHeartbeats 1000000 in
theorem genlen_any (c n : Nat) (hc : c < 18446744073709551616) (hn : n < 4294967296) (w : World) :
    Calls Try.prog 20 #[.agg #[.int .u64 c, .int .u32 n]] w fun e w' => e = .returned (.int .i64 (genB c n).length) ∧ Below w.heap.size w w' := by
  have l1 := Lib.uvarint_length64 hc
  have hn' : n < 18446744073709551616 := by omega
  have l2 := Lib.uvarint_length64 hn'
  go_enter Try.func20, Try.ntmps20
  go_wp2
  go_quiet ((go_at_call 18; exact Calls.quiet_of_same (uvlen_any _ (by assumption) _)))
  go_wp2
  go_ret
  have hbq := below_drewN ((Below.refl w.heap.size w).alloc (Nat.le_refl _) (.cells #[.int .u64 c, .int .u32 n] 26)) nq
  refine ⟨?_, hbq⟩
  have e : (genB c n).length = (uvarint c).length + (uvarint n).length := by rw [genB, List.length_append]
  rw [e]
  simp

theorem uvlen_same (x : Nat) (hx : x < 18446744073709551616) (w : World) :
    Calls Try.prog 18 #[.int .u64 x] w fun e w' => e = .returned (.int .i64 (uvarint x).length) ∧ w = w' := (uvlen_any x hx w).mono fun _ _ ⟨h, k⟩ => ⟨h, k.symm⟩
theorem vallen_same (s : ByteArray) (hs : s.size ≤ 1048576) (w : World) :
    Calls Try.prog 19 #[.string s] w fun e w' => e = .returned (.int .i64 (valB s).length) ∧ w = w' := (vallen_any s hs w).mono fun _ _ ⟨h, k⟩ => ⟨h, k.symm⟩

theorem ret_log (a b : Nat) (ha : a ≤ 20) (hb : b ≤ 10) : Ending.returned (.int .i64 (IntKind.i64.wrap (IntKind.i64.wrap (1 + (a : Int)) + (b : Int)))) = .returned (.int .i64 ((a + b + 1 : Nat) : Int)) := by
  rw [IntWalk.i64_in (1 + (a : Int)) (by omega), IntWalk.i64_in _ (by omega)]
  congr 2
  omega
theorem sum_slot (a b c d : Nat) (ha : a ≤ 10) (hb : b ≤ 20) (hc : c ≤ 20) (hd : d ≤ 2000000) :
    Value.int .i64 (IntKind.i64.wrap (IntKind.i64.wrap (IntKind.i64.wrap (IntKind.i64.wrap (IntKind.i64.wrap (1 + (a : Int)) + (b : Int)) + (c : Int)) + (d : Int)) + 1)) = .int .i64 ((1 + a + b + c + d + 1 : Nat) : Int) := by
  rw [IntWalk.i64_in (1 + (a : Int)) (by omega), IntWalk.i64_in (1 + (a : Int) + (b : Int)) (by omega), IntWalk.i64_in (1 + (a : Int) + (b : Int) + (c : Int)) (by omega), IntWalk.i64_in (1 + (a : Int) + (b : Int) + (c : Int) + (d : Int)) (by omega), IntWalk.i64_in _ (by omega)]
  congr 1
theorem code_len (hl : Bool) (ld av : ByteArray) : (uvarint (code hl ld av)).length = 1 := by
  have : code hl ld av < 128 := by unfold code; (repeat' split) <;> omega
  rw [Lib.uvarint_small this]; rfl
theorem slot_len (slot pC pN aC aN : Nat) (av : ByteArray) (hl : Bool) (ld v : ByteArray) (seen : Nat) : (bodySlot slot pC pN aC aN av (code hl ld av) v seen).length = (1 + (uvarint slot).length + (genB pC pN).length + (genB aC aN).length + (valB av).length + 1) + (valB v).length + (uvarint seen).length := by
  simp only [bodySlot, List.length_cons, List.length_append, code_len]; omega
theorem told_is (ld av : ByteArray) (h : sb ld ≠ sb av) : told true ld av = ld := by simp [told, h]
theorem told_no (ld av : ByteArray) : told false ld av = ByteArray.empty := by simp [told]
theorem told_eqv (ld av : ByteArray) (h : sb ld = sb av) : told true ld av = ByteArray.empty := by simp [told, h]
theorem vallen_empty (w : World) : Calls Try.prog 19 #[.string { data := #[] }] w fun e w' => e = .returned (.int .i64 (valB ByteArray.empty).length) ∧ w = w' := (vallen_any ByteArray.empty (by decide) w).mono fun _ _ ⟨h, k⟩ => ⟨h, k.symm⟩

abbrev r14 (slot pC pN aC aN : Nat) (av ld : ByteArray) (hl : Bool) (seen lC lN lS start : Nat) (mem : ByteArray) : Rec := ⟨slot, pC, pN, aC, aN, av, ld, hl, seen, lC, lN, lS, start, mem⟩

set_option maxRecDepth 100000 in
set_option maxHeartbeats 4000000 in
theorem reclen_any (slot pC pN aC aN : Nat) (av ld : ByteArray) (hl : Bool) (seen lC lN lS start : Nat) (mem : ByteArray) (hf : Fits (r14 slot pC pN aC aN av ld hl seen lC lN lS start mem)) (hs : Rec.small (r14 slot pC pN aC aN av ld hl seen lC lN lS start mem)) (w : World) :
    Calls Try.prog 11 #[.agg (cells14 slot pC pN aC aN av ld hl seen lC lN lS start mem)] w
      fun e w' => e = .returned (.int .i64 (body (r14 slot pC pN aC aN av ld hl seen lC lN lS start mem)).length) ∧ Below w.heap.size w w' := by
  obtain ⟨f0, f1, f2, f3, f4, f5, f6, f7, f8, f9⟩ := hf
  simp only [Rec.small] at hs f0 f1 f2 f3 f4 f5 f6 f7 f8 f9
  have hb0 : Below w.heap.size w (w.alloc (.cells (cells14 slot pC pN aC aN av ld hl seen lC lN lS start mem) 32)) := (Below.refl _ _).alloc (Nat.le_refl _) _
  unfold body
  simp only []
  by_cases h1 : start ≠ 0
  · rw [if_pos h1]
    have l1 := Lib.uvarint_length64 f9
    have hst0 : ((start : Int) != 0) = true := by simp; omega
    unfold cells14 at *
    go_enter Try.func11, Try.ntmps11
    go_wp2_with fail
    refine (uvlen_any start f9 _).mono ?_
    rintro e w' ⟨rfl, rfl⟩
    go_wp2
    go_ret
    refine ⟨?_, hb0⟩
    rw [bodyStart, List.length_cons]
    simp; omega
  rw [if_neg h1]
  obtain rfl : start = 0 := by omega
  by_cases h2 : sb mem ≠ []
  · rw [if_pos h2]
    have hmt := nonempty_of h2
    have l1 := val_len mem (by omega)
    unfold cells14 at *
    go_enter Try.func11, Try.ntmps11
    go_wp2_with fail
    refine (vallen_any mem (by omega) _).mono ?_
    rintro e w' ⟨rfl, rfl⟩
    go_wp2
    go_ret
    refine ⟨?_, hb0⟩
    rw [bodyMem, List.length_cons]
    simp; omega
  rw [if_neg h2]
  have hme := empty_of (Classical.not_not.1 h2)
  by_cases h3 : slot = 0
  · rw [if_pos h3]
    subst h3
    have l1 := gen_len lC lN f6 f7
    have l2 := Lib.uvarint_length64 f8
    have i9 : (w.alloc (.cells (cells14 0 pC pN aC aN av ld hl seen lC lN lS 0 mem) 32)).cell? ⟨w.heap.size, 9, none⟩ = some (.int .u64 lC) := by simp
    have i10 : (w.alloc (.cells (cells14 0 pC pN aC aN av ld hl seen lC lN lS 0 mem) 32)).cell? ⟨w.heap.size, 10, none⟩ = some (.int .u32 lN) := by simp
    have i11 : (w.alloc (.cells (cells14 0 pC pN aC aN av ld hl seen lC lN lS 0 mem) 32)).cell? ⟨w.heap.size, 11, none⟩ = some (.int .u64 lS) := by simp
    unfold cells14 at *
    go_enter Try.func11, Try.ntmps11
    go_upto_region 6 with fail
    go_region_held3 (fun w' => w'.cell? ⟨w.heap.size, 9, none⟩ = some (.int .u64 lC) ∧ w'.cell? ⟨w.heap.size, 10, none⟩ = some (.int .u32 lN) ∧ w'.cell? ⟨w.heap.size, 11, none⟩ = some (.int .u64 lS)) (first | (go_split_ands; (repeat' apply And.intro) <;> with_reducible assumption) | (go_split_ands; (repeat' apply And.intro) <;> (refine keepcell hbk ?_; with_reducible assumption)) | go_keep)
      (first | (go_at_call 20; refine (genlen_any lC lN f6 f7 _).mono ?_; rintro e wk ⟨rfl, hbk⟩) | (go_at_call 18; refine (uvlen_any lS f8 _).mono ?_; rintro e w' ⟨rfl, rfl⟩))
    go_wp2
    go_ret
    refine ⟨?_, hb0.drew.trans (hbk.mono (by simp))⟩
    have e : (bodyLog lC lN lS).length = (genB lC lN).length + (uvarint lS).length + 1 := by rw [bodyLog, List.length_cons, List.length_append]
    rw [e]
    exact ret_log _ _ l1 l2
  rw [if_neg h3]
  have hsl : ((slot : Int) == 0) = false := by simp; omega
  have l0 := Lib.uvarint_length64 f0
  have l1 := gen_len pC pN f1 f2
  have l2 := gen_len aC aN f3 f4
  have l3 := val_len av (by omega)
  have l4 := val_len ld (by omega)
  have l5 := Lib.uvarint_length64 f5
  obtain ⟨m0, m1, m2, m3⟩ := l_012
  have hb1 : Below w.heap.size w ((w.alloc (.cells (cells14 slot pC pN aC aN av ld hl seen lC lN lS 0 mem) 32)).alloc (.cells (cells8 pC pN aC aN av ld hl seen) 28)) := hb0.alloc (by simp) _
  have i0 : ((w.alloc (.cells (cells14 slot pC pN aC aN av ld hl seen lC lN lS 0 mem) 32)).alloc (.cells (cells8 pC pN aC aN av ld hl seen) 28)).cell? ⟨w.heap.size, 0, none⟩ = some (.int .u64 slot) := by simp
  have q0 : ((w.alloc (.cells (cells14 slot pC pN aC aN av ld hl seen lC lN lS 0 mem) 32)).alloc (.cells (cells8 pC pN aC aN av ld hl seen) 28)).cell? ⟨w.heap.size + 1, 0, none⟩ = some (.int .u64 pC) := by simp
  have q1 : ((w.alloc (.cells (cells14 slot pC pN aC aN av ld hl seen lC lN lS 0 mem) 32)).alloc (.cells (cells8 pC pN aC aN av ld hl seen) 28)).cell? ⟨w.heap.size + 1, 1, none⟩ = some (.int .u32 pN) := by simp
  have q2 : ((w.alloc (.cells (cells14 slot pC pN aC aN av ld hl seen lC lN lS 0 mem) 32)).alloc (.cells (cells8 pC pN aC aN av ld hl seen) 28)).cell? ⟨w.heap.size + 1, 2, none⟩ = some (.int .u64 aC) := by simp
  have q3 : ((w.alloc (.cells (cells14 slot pC pN aC aN av ld hl seen lC lN lS 0 mem) 32)).alloc (.cells (cells8 pC pN aC aN av ld hl seen) 28)).cell? ⟨w.heap.size + 1, 3, none⟩ = some (.int .u32 aN) := by simp
  have q4 : ((w.alloc (.cells (cells14 slot pC pN aC aN av ld hl seen lC lN lS 0 mem) 32)).alloc (.cells (cells8 pC pN aC aN av ld hl seen) 28)).cell? ⟨w.heap.size + 1, 4, none⟩ = some (.string av) := by simp
  have q5 : ((w.alloc (.cells (cells14 slot pC pN aC aN av ld hl seen lC lN lS 0 mem) 32)).alloc (.cells (cells8 pC pN aC aN av ld hl seen) 28)).cell? ⟨w.heap.size + 1, 5, none⟩ = some (.string ld) := by simp
  have q6 : ((w.alloc (.cells (cells14 slot pC pN aC aN av ld hl seen lC lN lS 0 mem) 32)).alloc (.cells (cells8 pC pN aC aN av ld hl seen) 28)).cell? ⟨w.heap.size + 1, 6, none⟩ = some (.bool hl) := by simp
  have q7 : ((w.alloc (.cells (cells14 slot pC pN aC aN av ld hl seen lC lN lS 0 mem) 32)).alloc (.cells (cells8 pC pN aC aN av ld hl seen) 28)).cell? ⟨w.heap.size + 1, 7, none⟩ = some (.int .u64 seen) := by simp
  have hav : av.size ≤ 1048576 := by omega
  unfold cells14 cells8 at *
  go_enter Try.func11, Try.ntmps11
  go_upto_region 8 with fail
  go_cut [4] (fun v wx => v = .int .i64 ((1 + (uvarint slot).length + (genB pC pN).length + (genB aC aN).length + (valB av).length + 1 : Nat) : Int) ∧ Below ((w.alloc (.cells (cells14 slot pC pN aC aN av ld hl seen lC lN lS 0 mem) 32)).alloc (.cells (cells8 pC pN aC aN av ld hl seen) 28)).heap.size ((w.alloc (.cells (cells14 slot pC pN aC aN av ld hl seen lC lN lS 0 mem) 32)).alloc (.cells (cells8 pC pN aC aN av ld hl seen) 28)) wx)
  case first =>
    go_region_held3 (fun w' => w'.cell? ⟨w.heap.size, 0, none⟩ = some (.int .u64 slot) ∧ w'.cell? ⟨w.heap.size + 1, 0, none⟩ = some (.int .u64 pC) ∧ w'.cell? ⟨w.heap.size + 1, 1, none⟩ = some (.int .u32 pN) ∧ w'.cell? ⟨w.heap.size + 1, 2, none⟩ = some (.int .u64 aC) ∧ w'.cell? ⟨w.heap.size + 1, 3, none⟩ = some (.int .u32 aN) ∧ w'.cell? ⟨w.heap.size + 1, 4, none⟩ = some (.string av)) (first | (go_split_ands; (repeat' apply And.intro) <;> with_reducible assumption) | (go_split_ands; (repeat' apply And.intro) <;> (refine keepcell hbk ?_; with_reducible assumption)) | go_keep)
      (first | (go_at_call_of 20 (Value.int .u32 pN); refine (genlen_any pC pN f1 f2 _).mono ?_; rintro e wk ⟨rfl, hbk⟩; have hbk1 := hbk) | (go_at_call 20; refine (genlen_any aC aN f3 f4 _).mono ?_; rintro e wk ⟨rfl, hbk⟩) | (go_at_call 18; refine (uvlen_same slot f0 _).mono ?_; rintro e w' ⟨rfl, rfl⟩) | (go_at_call 19; refine (vallen_same av hav _).mono ?_; rintro e w' ⟨rfl, rfl⟩))
    go_wp2
    go_meet
    refine ⟨sum_slot _ _ _ _ l0 l1 l2 (by omega), ?_⟩
    exact ((Below.refl _ _).drew.trans hbk1).trans (hbk.mono hbk1.size)
  case rest =>
    obtain ⟨rfl, hbd⟩ := hcut
    rename World => wd
    obtain ⟨N, hN⟩ : ∃ N, N = 1 + (uvarint slot).length + (genB pC pN).length + (genB aC aN).length + (valB av).length + 1 := ⟨_, rfl⟩
    have hNb : N ≤ 2000000 := by omega
    have HN : Hid (1 + (uvarint slot).length + (genB pC pN).length + (genB aC aN).length + (valB av).length + 1 = N) := hN.symm
    rw [← hN]
    clear hN
    have d4 := keepcell hbd q4
    have d5 := keepcell hbd q5
    have d6 := keepcell hbd q6
    have d7 := keepcell hbd q7
    clear i0 q0 q1 q2 q3 q4 q5 q6 q7
    cases hl with
    | false =>
      go_wp2_with fail
      refine (vallen_empty _).mono ?_
      rintro e w' ⟨rfl, rfl⟩
      go_wp2_with fail
      refine (uvlen_same seen f5 _).mono ?_
      rintro e w' ⟨rfl, rfl⟩
      go_wp2
      go_ret
      refine ⟨?_, hb1.trans (hbd.mono hb1.size)⟩
      rw [slot_len, told_no, HN.out]
      simp
    | true =>
      by_cases hla : sb ld = sb av
      · have hq := eq_true_of hla
        go_wp2_with fail
        refine (vallen_empty _).mono ?_
        rintro e w' ⟨rfl, rfl⟩
        go_wp2_with fail
        refine (uvlen_same seen f5 _).mono ?_
        rintro e w' ⟨rfl, rfl⟩
        go_wp2
        go_ret
        refine ⟨?_, hb1.trans (hbd.mono hb1.size)⟩
        rw [slot_len, told_eqv _ _ hla, HN.out]
        simp
      · have hq := eq_false_of hla
        go_wp2_with fail
        refine (vallen_same ld (by omega) _).mono ?_
        rintro e w' ⟨rfl, rfl⟩
        go_wp2_with fail
        refine (uvlen_same seen f5 _).mono ?_
        rintro e w' ⟨rfl, rfl⟩
        go_wp2
        go_ret
        refine ⟨?_, hb1.trans (hbd.mono hb1.size)⟩
        rw [slot_len, told_is _ _ hla, HN.out]
        simp
end Go.Proofs.Qxb6613904a
