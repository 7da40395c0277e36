/-
  appendRecord, ZZappendRecord, zzAppend: what they write.
-/
import Derived.Test.Qxb6613904aAppend
import Derived.Deep.AppendLies
import Derived.Deep.DeepCutAuto
import Derived.Deep.RegionHeld3
import Derived.Deep.DrawnRows
import Derived.Deep.QuietTactic
import Derived.BigQuiet
namespace Go.Proofs.Qxb6613904a
open Go.RowKit
open Go.Lib (uvarint)
set_option linter.unusedVariables false

/-- The record as a value: its fourteen cells. -/
abbrev cells14 (slot pC pN aC aN : Nat) (av ld : ByteArray) (hl : Bool) (seen lC lN lS start : Nat) (mem : ByteArray) : Array Value :=
  #[.int .u64 slot, .int .u64 pC, .int .u32 pN, .int .u64 aC, .int .u32 aN, .string av, .string ld, .bool hl, .int .u64 seen, .int .u64 lC, .int .u32 lN, .int .u64 lS, .int .u64 start, .string mem]

theorem sb_toList (s : ByteArray) : s.toList = sb s := ByteArray.toList_eq s
theorem empty_of {s : ByteArray} (h : sb s = []) : (!s.toList.isEmpty) = false := by rw [sb_toList, h]; rfl
theorem nonempty_of {s : ByteArray} (h : sb s ≠ []) : (!s.toList.isEmpty) = true := by
  rw [sb_toList]
  cases e : sb s with
  | nil => exact absurd e h
  | cons a l => rfl
theorem eq_true_of {s t : ByteArray} (h : sb s = sb t) : (s.toList == t.toList) = true := by rw [sb_toList, sb_toList, h]; simp
theorem eq_false_of {s t : ByteArray} (h : sb s ≠ sb t) : (s.toList == t.toList) = false := by rw [sb_toList, sb_toList]; simpa using h

theorem Step.cells {W w' : World} {v v' : Value} (st : Step W v w' v') (b : Nat) (hb : b < W.heap.size) (hne : v.ownBlock ≠ some b) : ∀ j, w'.cell? ⟨b, j, none⟩ = W.cell? ⟨b, j, none⟩ :=
  fun j => World.cell?_of_block (st.1.block b hb (fun e => hne e.symm))
theorem Own.ne_new {B : Nat} {w : World} {v : Value} {xs : List UInt8} (h : Own B w v xs) {b : Nat} (hb : w.heap.size ≤ b) : v.ownBlock ≠ some b := by
  intro e
  have := (h.lt _ e).2
  omega

theorem new_byte (W : World) {H : Nat} (hH : W.heap.size = H) (c : Int) : ∀ j u, [Value.int .u8 c][j]? = some u → (W.alloc (.cells #[.int .u8 c] 5)).cell? ((⟨H, 0, none⟩ : Addr).add j) = some u := by
  subst hH
  exact cell_one_new _ _ _
theorem one_u8 (c : Int) : ∀ u ∈ [Value.int .u8 c], u.oneCell' = true := by intro u hu; simp at hu; subst hu; rfl

theorem undrew {w w1 : World} {r : Option Nat} (h : w.drew.grownBy w1 r) : w.grownBy w1 r := ⟨h.os, h.tape, h.output, h.size, h.block⟩
theorem push_lies {B : Nat} {w w1 : World} {v : Value} {xs : List UInt8} {n g cap H : Nat} {c : Int} (O : Obj) (b : UInt8) (h : w1.ownsRow B 5 1 (.slice (some ⟨g, 0, none⟩) n cap) n (Lib.byteCells xs ++ [.int .u8 c])) (hn : n = xs.length + 1) (hc : c = (b.toNat : Int)) (hg : (w.alloc O).drew.grownBy w1 v.ownBlock) (hat : v.ownBlock = some g ∨ g = H) (hH : w.heap.size ≤ H) :
    Own B w1 (.slice (some ⟨g, 0, none⟩) n cap) (xs ++ [b]) ∧ Step w v w1 (.slice (some ⟨g, 0, none⟩) n cap) :=
  push_own O b h hn hc (undrew hg) (hat.elim (fun e => .inl (by rw [e]; rfl)) (fun e => .inr (by rw [← e]; rfl))) hH

set_option maxRecDepth 100000 in
set_option maxHeartbeats 2000000 in
theorem rec_log (B slot pC pN aC aN : Nat) (av ld : ByteArray) (hl : Bool) (seen lC lN lS start : Nat) (mem : ByteArray) (v : Value) (xs : List UInt8) (w : World)
    (hslot : slot = 0) (hstart : start = 0) (hmem : sb mem = [])
    (hC : lC < 18446744073709551616) (hN : lN < 4294967296) (hS : lS < 18446744073709551616)
    (hown : Own B w v xs) (hBw : B ≤ w.heap.size) (hlim : xs.length + 100 ≤ 140737488355328) :
    Calls Try.prog 21 #[v, .agg (cells14 slot pC pN aC aN av ld hl seen lC lN lS start mem)] w
      fun e w' => ∃ v', e = .returned v' ∧ Own B w' v' (xs ++ bodyLog lC lN lS) ∧ Step w v w' v' := by
  subst hslot hstart
  have hme := empty_of hmem
  obtain ⟨i0, hi, hz0, hz1, hz2⟩ := info_parts Try.info5
  have hm : xs.length + 1 ≤ maxLen := by unfold maxLen; omega
  have hb : (xs.length + 1) * 1 ≤ 140737488355328 := by omega
  have ho1 := hown.alloc (.cells (cells14 0 pC pN aC aN av ld hl seen lC lN lS 0 mem) 59)
  have hsW : (w.alloc (.cells (cells14 0 pC pN aC aN av ld hl seen lC lN lS 0 mem) 59)).heap.size = w.heap.size + 1 := by simp
  have ho2 := ho1.alloc (.cells #[.int .u8 2] 5)
  have hbase : B ≤ ((w.alloc (.cells (cells14 0 pC pN aC aN av ld hl seen lC lN lS 0 mem) 59)).alloc (.cells #[.int .u8 2] 5)).heap.size := by simp; omega
  have hnews := new_byte _ hsW 2
  have hne := hown.ne_new (Nat.le_refl _)
  have st0 := (Step.refl w v).alloc (.cells (cells14 0 pC pN aC aN av ld hl seen lC lN lS 0 mem) 59)
  clear hsW
  unfold cells14 at *
  go_enter Try.func21, Try.ntmps21
  go_upto_region 7 with (first | (at_builtin; refine wpList_append_own_at _ (by rfl) (.tmp 29) (.tmp 30) 22 (by rfl) B 5 i0 (.int .u8 0) 1 1 Try.underlying22 hi hz0 hz1 hz2 (by rfl) (by decide) v xs.length _ (by rfl) ho2 ⟨w.heap.size + 1, 0, none⟩ 1 1 [.int .u8 2] (by rfl) (by rfl) hnews (one_u8 2) hm hb hbase ?_; intro v1 w1 hown1 hgr1 _ hat1))
  have hp := push_own _ 2 hown1 rfl rfl hgr1 hat1 (by simp)
  obtain ⟨hx1, st1⟩ := hp
  have hc1 := st1.cells w.heap.size (by simp) hne
  have hB1 : B ≤ w1.heap.size := by have := st1.size; simp at this; omega
  clear hown1 hgr1 hat1 ho2 ho1 hbase hnews
  go_wp2_with fail
  refine (gen_any B lC lN hC hN v1 _ w1 hx1 hB1 (by simp only [List.length_append, List.length_singleton]; omega)).mono ?_
  rintro e w2 ⟨v2, rfl, hx2, st2⟩
  have hc2 := (st1.trans st2).cells w.heap.size (by simp) hne
  have hB2 : B ≤ w2.heap.size := Nat.le_trans hB1 st2.size
  have hgl : (genB lC lN).length ≤ 20 := by
    have h1 := Lib.uvarint_length64 hC
    have h2 := Lib.uvarint_length64 (x := lN) (by omega)
    simp only [genB, List.length_append]; omega
  go_wp2_with fail
  refine (uvarint_any B lS hS v2 _ w2 hx2 hB2 (by simp only [List.length_append, List.length_singleton]; omega)).mono ?_
  rintro e w3 ⟨v3, rfl, hx3, st3⟩
  go_wp2
  go_ret
  refine ⟨_, rfl, ?_, st0.trans (st1.trans (st2.trans st3))⟩
  simpa [bodyLog, List.append_assoc] using hx3

set_option maxRecDepth 100000 in
set_option maxHeartbeats 2000000 in
theorem rec_start (B slot pC pN aC aN : Nat) (av ld : ByteArray) (hl : Bool) (seen lC lN lS start : Nat) (mem : ByteArray) (v : Value) (xs : List UInt8) (w : World)
    (hstart : start ≠ 0) (hS : start < 18446744073709551616)
    (hown : Own B w v xs) (hBw : B ≤ w.heap.size) (hlim : xs.length + 100 ≤ 140737488355328) :
    Calls Try.prog 21 #[v, .agg (cells14 slot pC pN aC aN av ld hl seen lC lN lS start mem)] w
      fun e w' => ∃ v', e = .returned v' ∧ Own B w' v' (xs ++ bodyStart start) ∧ Step w v w' v' := by
  have hst0 : ((start : Int) != 0) = true := by simp; omega
  obtain ⟨i0, hi, hz0, hz1, hz2⟩ := info_parts Try.info5
  have hm : xs.length + 1 ≤ maxLen := by unfold maxLen; omega
  have hb : (xs.length + 1) * 1 ≤ 140737488355328 := by omega
  have ho1 := hown.alloc (.cells (cells14 slot pC pN aC aN av ld hl seen lC lN lS start mem) 59)
  have hsW : (w.alloc (.cells (cells14 slot pC pN aC aN av ld hl seen lC lN lS start mem) 59)).heap.size = w.heap.size + 1 := by simp
  have ho2 := (ho1.alloc (.cells #[.int .u8 4] 5)).drew
  have hbase : B ≤ ((w.alloc (.cells (cells14 slot pC pN aC aN av ld hl seen lC lN lS start mem) 59)).alloc (.cells #[.int .u8 4] 5)).drew.heap.size := by simp; omega
  have hnews : ∀ j u, [Value.int .u8 4][j]? = some u → ((w.alloc (.cells (cells14 slot pC pN aC aN av ld hl seen lC lN lS start mem) 59)).alloc (.cells #[.int .u8 4] 5)).drew.cell? ((⟨w.heap.size + 1, 0, none⟩ : Addr).add j) = some u := new_byte _ hsW 4
  have hne := hown.ne_new (Nat.le_refl _)
  have st0 := (Step.refl w v).alloc (.cells (cells14 slot pC pN aC aN av ld hl seen lC lN lS start mem) 59)
  have HH : Hid (((w.alloc (.cells (cells14 slot pC pN aC aN av ld hl seen lC lN lS start mem) 59)).alloc (.cells #[.int .u8 4] 5)).drew.heap.size = w.heap.size + 2) := (by simp : ((w.alloc (.cells (cells14 slot pC pN aC aN av ld hl seen lC lN lS start mem) 59)).alloc (.cells #[.int .u8 4] 5)).drew.heap.size = w.heap.size + 2)
  clear hsW
  have hlH : (w.alloc (.cells (cells14 slot pC pN aC aN av ld hl seen lC lN lS start mem) 59)).heap.size ≤ w.heap.size + 2 := by simp
  have hBW : B ≤ (w.alloc (.cells (cells14 slot pC pN aC aN av ld hl seen lC lN lS start mem) 59)).heap.size := by simp; omega
  have hl4 : (xs ++ [4]).length + 10 ≤ 140737488355328 := by simp only [List.length_append, List.length_singleton]; omega
  have hltV : w.heap.size < (w.alloc (.cells (cells14 slot pC pN aC aN av ld hl seen lC lN lS start mem) 59)).heap.size := by simp
  have hcV : (w.alloc (.cells (cells14 slot pC pN aC aN av ld hl seen lC lN lS start mem) 59)).cell? ⟨w.heap.size, 12, none⟩ = some (.int .u64 start) := by simp
  have hltW : w.heap.size < ((w.alloc (.cells (cells14 slot pC pN aC aN av ld hl seen lC lN lS start mem) 59)).alloc (.cells #[.int .u8 4] 5)).drew.heap.size := by rw [HH.out]; omega
  have hcW : ((w.alloc (.cells (cells14 slot pC pN aC aN av ld hl seen lC lN lS start mem) 59)).alloc (.cells #[.int .u8 4] 5)).drew.cell? ⟨w.heap.size, 12, none⟩ = some (.int .u64 start) := by simp
  unfold cells14 at *
  go_enter Try.func21, Try.ntmps21
  go_upto_region 2 with fail
  go_region_held3 (fun w' => w'.cell? ⟨w.heap.size, 12, none⟩ = some (.int .u64 start)) (first | go_keep | (exact (hgr1.cell_far ⟨w.heap.size, 12, none⟩ hltW (fun e => hne e.symm)).trans hcW) | (exact hS2))
    (first | (refine step_append_lies _ (by rfl) (.tmp 11) (.tmp 12) 22 (by rfl) B 5 i0 (.int .u8 0) 1 1 Try.underlying22 hi hz0 hz1 hz2 (by rfl) (by decide) v xs.length _ (by rfl) ho2 ⟨w.heap.size + 1, 0, none⟩ 1 1 [.int .u8 4] (by rfl) (by rfl) hnews (one_u8 4) (by decide) hm hb hbase (w.heap.size + 2) HH.out ?_; intro g cap w1 hown1 hgr1 hat1 hlt1; have hx1 := push_lies _ 4 hown1 rfl rfl hgr1 hat1 hlH; have hB1 := Nat.le_trans hBW hx1.2.size) | (go_at_call 23; refine (uvarint_any B start hS _ _ w1 hx1.1 hB1 hl4).mono ?_; rintro e w2 ⟨v2, rfl, hx2, st2⟩; have hS2 := ((hx1.2.trans st2).cells w.heap.size hltV hne 12).trans hcV))
  all_goals go_wp2
  all_goals go_ret
  all_goals
    refine ⟨_, rfl, ?_, st0.trans (hx1.2.trans st2)⟩
    simpa [bodyStart, List.append_assoc] using hx2
set_option maxRecDepth 100000 in
set_option maxHeartbeats 2000000 in
theorem rec_mem (B slot pC pN aC aN : Nat) (av ld : ByteArray) (hl : Bool) (seen lC lN lS start : Nat) (mem : ByteArray) (v : Value) (xs : List UInt8) (w : World)
    (hstart : start = 0) (hmem : sb mem ≠ [])
    (hown : Own B w v xs) (hBw : B ≤ w.heap.size) (hlim : xs.length + 100 + mem.size ≤ 140737488355328) :
    Calls Try.prog 21 #[v, .agg (cells14 slot pC pN aC aN av ld hl seen lC lN lS start mem)] w
      fun e w' => ∃ v', e = .returned v' ∧ Own B w' v' (xs ++ bodyMem mem) ∧ Step w v w' v' := by
  subst hstart
  have hmt := nonempty_of hmem
  obtain ⟨i0, hi, hz0, hz1, hz2⟩ := info_parts Try.info5
  have hm : xs.length + 1 ≤ maxLen := by unfold maxLen; omega
  have hb : (xs.length + 1) * 1 ≤ 140737488355328 := by omega
  have ho1 := hown.alloc (.cells (cells14 slot pC pN aC aN av ld hl seen lC lN lS 0 mem) 59)
  have hsW : (w.alloc (.cells (cells14 slot pC pN aC aN av ld hl seen lC lN lS 0 mem) 59)).heap.size = w.heap.size + 1 := by simp
  have ho2 := (ho1.alloc (.cells #[.int .u8 5] 5)).drew
  have hbase : B ≤ ((w.alloc (.cells (cells14 slot pC pN aC aN av ld hl seen lC lN lS 0 mem) 59)).alloc (.cells #[.int .u8 5] 5)).drew.heap.size := by simp; omega
  have hnews : ∀ j u, [Value.int .u8 5][j]? = some u → ((w.alloc (.cells (cells14 slot pC pN aC aN av ld hl seen lC lN lS 0 mem) 59)).alloc (.cells #[.int .u8 5] 5)).drew.cell? ((⟨w.heap.size + 1, 0, none⟩ : Addr).add j) = some u := new_byte _ hsW 5
  have hne := hown.ne_new (Nat.le_refl _)
  have st0 := (Step.refl w v).alloc (.cells (cells14 slot pC pN aC aN av ld hl seen lC lN lS 0 mem) 59)
  have HH : Hid (((w.alloc (.cells (cells14 slot pC pN aC aN av ld hl seen lC lN lS 0 mem) 59)).alloc (.cells #[.int .u8 5] 5)).drew.heap.size = w.heap.size + 2) := (by simp : ((w.alloc (.cells (cells14 slot pC pN aC aN av ld hl seen lC lN lS 0 mem) 59)).alloc (.cells #[.int .u8 5] 5)).drew.heap.size = w.heap.size + 2)
  clear hsW
  have hlH : (w.alloc (.cells (cells14 slot pC pN aC aN av ld hl seen lC lN lS 0 mem) 59)).heap.size ≤ w.heap.size + 2 := by simp
  have hBW : B ≤ (w.alloc (.cells (cells14 slot pC pN aC aN av ld hl seen lC lN lS 0 mem) 59)).heap.size := by simp; omega
  have hl4 : (xs ++ [5]).length + 10 + mem.size ≤ 140737488355328 := by simp only [List.length_append, List.length_singleton]; omega
  have hltV : w.heap.size < (w.alloc (.cells (cells14 slot pC pN aC aN av ld hl seen lC lN lS 0 mem) 59)).heap.size := by simp
  have hcV : (w.alloc (.cells (cells14 slot pC pN aC aN av ld hl seen lC lN lS 0 mem) 59)).cell? ⟨w.heap.size, 13, none⟩ = some (.string mem) := by simp
  have hltW : w.heap.size < ((w.alloc (.cells (cells14 slot pC pN aC aN av ld hl seen lC lN lS 0 mem) 59)).alloc (.cells #[.int .u8 5] 5)).drew.heap.size := by rw [HH.out]; omega
  have hcW : ((w.alloc (.cells (cells14 slot pC pN aC aN av ld hl seen lC lN lS 0 mem) 59)).alloc (.cells #[.int .u8 5] 5)).drew.cell? ⟨w.heap.size, 13, none⟩ = some (.string mem) := by simp
  unfold cells14 at *
  go_enter Try.func21, Try.ntmps21
  go_upto_region 4 with fail
  go_region_held3 (fun w' => w'.cell? ⟨w.heap.size, 13, none⟩ = some (.string mem)) (first | go_keep | (exact (hgr1.cell_far ⟨w.heap.size, 13, none⟩ hltW (fun e => hne e.symm)).trans hcW) | (exact hS2))
    (first | (refine step_append_lies _ (by rfl) (.tmp 20) (.tmp 21) 22 (by rfl) B 5 i0 (.int .u8 0) 1 1 Try.underlying22 hi hz0 hz1 hz2 (by rfl) (by decide) v xs.length _ (by rfl) ho2 ⟨w.heap.size + 1, 0, none⟩ 1 1 [.int .u8 5] (by rfl) (by rfl) hnews (one_u8 5) (by decide) hm hb hbase (w.heap.size + 2) HH.out ?_; intro g cap w1 hown1 hgr1 hat1 hlt1; have hx1 := push_lies _ 5 hown1 rfl rfl hgr1 hat1 hlH; have hB1 := Nat.le_trans hBW hx1.2.size) | (go_at_call 24; refine (value_any B mem _ _ w1 hx1.1 hB1 hl4).mono ?_; rintro e w2 ⟨v2, rfl, hx2, st2⟩; have hS2 := ((hx1.2.trans st2).cells w.heap.size hltV hne 13).trans hcV))
  all_goals go_wp2
  all_goals go_ret
  all_goals
    refine ⟨_, rfl, ?_, st0.trans (hx1.2.trans st2)⟩
    simpa [bodyMem, List.append_assoc] using hx2

abbrev cells8 (pC pN aC aN : Nat) (av ld : ByteArray) (hl : Bool) (seen : Nat) : Array Value :=
  #[.int .u64 pC, .int .u32 pN, .int .u64 aC, .int .u32 aN, .string av, .string ld, .bool hl, .int .u64 seen]

theorem gen_len (c n : Nat) (hc : c < 18446744073709551616) (hn : n < 4294967296) : (genB c n).length ≤ 20 := by
  have h1 := Lib.uvarint_length64 hc
  have h2 := Lib.uvarint_length64 (x := n) (by omega)
  simp only [genB, List.length_append]; omega
theorem val_len (s : ByteArray) (h : s.size < 18446744073709551616) : (valB s).length ≤ 10 + s.size := by
  have h1 := Lib.uvarint_length64 h
  simp only [valB, List.length_append, sb_length]; omega

theorem uv0 (B : Nat) (v : Value) (xs : List UInt8) (w : World) (hown : Own B w v xs) (hBw : B ≤ w.heap.size) (hlim : xs.length + 10 ≤ 140737488355328) :
    Calls Try.prog 23 #[v, .int .u64 0] w fun e w' => ∃ v', e = .returned v' ∧ Own B w' v' (xs ++ uvarint 0) ∧ Step w v w' v' := uvarint_any B 0 (by decide) v xs w hown hBw hlim
theorem uv1 (B : Nat) (v : Value) (xs : List UInt8) (w : World) (hown : Own B w v xs) (hBw : B ≤ w.heap.size) (hlim : xs.length + 10 ≤ 140737488355328) :
    Calls Try.prog 23 #[v, .int .u64 1] w fun e w' => ∃ v', e = .returned v' ∧ Own B w' v' (xs ++ uvarint 1) ∧ Step w v w' v' := uvarint_any B 1 (by decide) v xs w hown hBw hlim
theorem uv2 (B : Nat) (v : Value) (xs : List UInt8) (w : World) (hown : Own B w v xs) (hBw : B ≤ w.heap.size) (hlim : xs.length + 10 ≤ 140737488355328) :
    Calls Try.prog 23 #[v, .int .u64 2] w fun e w' => ∃ v', e = .returned v' ∧ Own B w' v' (xs ++ uvarint 2) ∧ Step w v w' v' := uvarint_any B 2 (by decide) v xs w hown hBw hlim
theorem val0 (B : Nat) (v : Value) (xs : List UInt8) (w : World) (hown : Own B w v xs) (hBw : B ≤ w.heap.size) (hlim : xs.length + 10 ≤ 140737488355328) :
    Calls Try.prog 24 #[v, .string { data := #[] }] w fun e w' => ∃ v', e = .returned v' ∧ Own B w' v' (xs ++ valB ByteArray.empty) ∧ Step w v w' v' := value_any B ByteArray.empty v xs w hown hBw hlim
theorem l_012 : (uvarint 0).length ≤ 10 ∧ (uvarint 1).length ≤ 10 ∧ (uvarint 2).length ≤ 10 ∧ (valB ByteArray.empty).length ≤ 10 :=
  ⟨Lib.uvarint_length64 (by decide), Lib.uvarint_length64 (by decide), Lib.uvarint_length64 (by decide), val_len ByteArray.empty (by decide)⟩

set_option maxRecDepth 100000 in
set_option maxHeartbeats 4000000 in
theorem rec_slot (B slot pC pN aC aN : Nat) (av ld : ByteArray) (hl : Bool) (seen lC lN lS start : Nat) (mem : ByteArray) (v : Value) (xs : List UInt8) (w : World)
    (hslot : slot ≠ 0) (hstart : start = 0) (hmem : sb mem = [])
    (h0 : slot < 18446744073709551616) (h1 : pC < 18446744073709551616) (h2 : pN < 4294967296) (h3 : aC < 18446744073709551616) (h4 : aN < 4294967296) (h5 : seen < 18446744073709551616)
    (hown : Own B w v xs) (hBw : B ≤ w.heap.size) (hlim : xs.length + 200 + av.size + ld.size ≤ 140737488355328) :
    Calls Try.prog 21 #[v, .agg (cells14 slot pC pN aC aN av ld hl seen lC lN lS start mem)] w
      fun e w' => ∃ v', e = .returned v' ∧ Own B w' v' (xs ++ bodySlot slot pC pN aC aN av (code hl ld av) (told hl ld av) seen) ∧ Step w v w' v' := by
  subst hstart
  have hme := empty_of hmem
  have hsl : ((slot : Int) == 0) = false := by simp; omega
  obtain ⟨i0, hi, hz0, hz1, hz2⟩ := info_parts Try.info5
  have hm : xs.length + 1 ≤ maxLen := by unfold maxLen; omega
  have hb : (xs.length + 1) * 1 ≤ 140737488355328 := by omega
  have ho1 := (hown.alloc (.cells (cells14 slot pC pN aC aN av ld hl seen lC lN lS 0 mem) 59)).alloc (.cells (cells8 pC pN aC aN av ld hl seen) 46)
  have hsW : ((w.alloc (.cells (cells14 slot pC pN aC aN av ld hl seen lC lN lS 0 mem) 59)).alloc (.cells (cells8 pC pN aC aN av ld hl seen) 46)).heap.size = w.heap.size + 2 := by simp
  have ho2 := ho1.alloc (.cells #[.int .u8 1] 5)
  have hbase : B ≤ (((w.alloc (.cells (cells14 slot pC pN aC aN av ld hl seen lC lN lS 0 mem) 59)).alloc (.cells (cells8 pC pN aC aN av ld hl seen) 46)).alloc (.cells #[.int .u8 1] 5)).heap.size := by simp; omega
  have hnews := new_byte _ hsW 1
  have hne := hown.ne_new (Nat.le_refl _)
  have hne2 := hown.ne_new (Nat.le_succ w.heap.size)
  have st0 := ((Step.refl w v).alloc (.cells (cells14 slot pC pN aC aN av ld hl seen lC lN lS 0 mem) 59)).alloc (.cells (cells8 pC pN aC aN av ld hl seen) 46)
  have l0 := Lib.uvarint_length64 h0
  have l1 := gen_len pC pN h1 h2
  have l2 := gen_len aC aN h3 h4
  have l3 := val_len av (by omega)
  have l4 := val_len ld (by omega)
  have hlt1 : w.heap.size < ((w.alloc (.cells (cells14 slot pC pN aC aN av ld hl seen lC lN lS 0 mem) 59)).alloc (.cells (cells8 pC pN aC aN av ld hl seen) 46)).heap.size := by simp; omega
  have hlt2 : w.heap.size + 1 < ((w.alloc (.cells (cells14 slot pC pN aC aN av ld hl seen lC lN lS 0 mem) 59)).alloc (.cells (cells8 pC pN aC aN av ld hl seen) 46)).heap.size := by simp
  clear hsW
  unfold cells14 cells8 at *
  go_enter Try.func21, Try.ntmps21
  go_upto_region 11 with (first | (at_builtin; refine wpList_append_own_at _ (by rfl) (.tmp 44) (.tmp 45) 22 (by rfl) B 5 i0 (.int .u8 0) 1 1 Try.underlying22 hi hz0 hz1 hz2 (by rfl) (by decide) v xs.length _ (by rfl) ho2 ⟨w.heap.size + 2, 0, none⟩ 1 1 [.int .u8 1] (by rfl) (by rfl) hnews (one_u8 1) hm hb hbase ?_; intro v1 w1 hown1 hgr1 _ hat1))
  have hp := push_own _ 1 hown1 rfl rfl hgr1 hat1 (by simp)
  obtain ⟨hx1, st1⟩ := hp
  have hc1 := st1.cells w.heap.size hlt1 hne
  have hd1 := st1.cells (w.heap.size + 1) hlt2 hne2
  have hB1 : B ≤ w1.heap.size := by have := st1.size; simp at this; omega
  clear hown1 hgr1 hat1 ho2 ho1 hbase hnews
  go_wp2_with fail
  refine (uvarint_any B slot h0 v1 _ w1 hx1 hB1 (by simp only [List.length_append, List.length_singleton]; omega)).mono ?_
  rintro e w2 ⟨v2, rfl, hx2, st2⟩
  have s2 := st1.trans st2
  have hc2 := s2.cells w.heap.size hlt1 hne
  have hd2 := s2.cells (w.heap.size + 1) hlt2 hne2
  have hB2 : B ≤ w2.heap.size := Nat.le_trans hB1 st2.size
  clear hc1 hd1
  go_wp2_with fail
  refine (gen_any B pC pN h1 h2 v2 _ w2 hx2 hB2 (by simp only [List.length_append, List.length_singleton]; omega)).mono ?_
  rintro e w3 ⟨v3, rfl, hx3, st3⟩
  have s3 := s2.trans st3
  have hc3 := s3.cells w.heap.size hlt1 hne
  have hd3 := s3.cells (w.heap.size + 1) hlt2 hne2
  have hB3 : B ≤ w3.heap.size := Nat.le_trans hB2 st3.size
  clear hc2 hd2
  go_wp2_with fail
  refine (gen_any B aC aN h3 h4 v3 _ w3 hx3 hB3 (by simp only [List.length_append, List.length_singleton]; omega)).mono ?_
  rintro e w4 ⟨v4, rfl, hx4, st4⟩
  have s4 := s3.trans st4
  have hc4 := s4.cells w.heap.size hlt1 hne
  have hd4 := s4.cells (w.heap.size + 1) hlt2 hne2
  have hB4 : B ≤ w4.heap.size := Nat.le_trans hB3 st4.size
  clear hc3 hd3
  go_wp2_with fail
  refine (value_any B av v4 _ w4 hx4 hB4 (by simp only [List.length_append, List.length_singleton]; omega)).mono ?_
  rintro e w5 ⟨v5, rfl, hx5, st5⟩
  have s5 := s4.trans st5
  have hc5 := s5.cells w.heap.size hlt1 hne
  have hd5 := s5.cells (w.heap.size + 1) hlt2 hne2
  have hB5 : B ≤ w5.heap.size := Nat.le_trans hB4 st5.size
  clear hc4 hd4
  obtain ⟨m0, m1, m2, m3⟩ := l_012
  clear st1 st2 st3 st4 st5 s2 s3 s4 hx1 hx2 hx3 hx4
  cases hl with
  | false =>
    go_wp2_with fail
    refine (uv0 B v5 _ w5 hx5 hB5 (by simp only [List.length_append, List.length_singleton]; omega)).mono ?_
    rintro e w6 ⟨v6, rfl, hx6, st6⟩
    have s6 := s5.trans st6
    have hc6 := s6.cells w.heap.size hlt1 hne
    have hd6 := s6.cells (w.heap.size + 1) hlt2 hne2
    have hB6 : B ≤ w6.heap.size := Nat.le_trans hB5 st6.size
    clear hc5 hd5
    go_wp2_with fail
    refine (val0 B v6 _ w6 hx6 hB6 (by simp only [List.length_append, List.length_singleton]; omega)).mono ?_
    rintro e w7 ⟨v7, rfl, hx7, st7⟩
    have s7 := s6.trans st7
    have hc7 := s7.cells w.heap.size hlt1 hne
    have hd7 := s7.cells (w.heap.size + 1) hlt2 hne2
    have hB7 : B ≤ w7.heap.size := Nat.le_trans hB6 st7.size
    clear hc6 hd6
    go_wp2_with fail
    refine (uvarint_any B seen h5 v7 _ w7 hx7 hB7 (by simp only [List.length_append, List.length_singleton]; omega)).mono ?_
    rintro e w8 ⟨v8, rfl, hx8, st8⟩
    go_wp2
    go_ret
    refine ⟨_, rfl, ?_, st0.trans (s7.trans st8)⟩
    simpa [bodySlot, code, told,  List.append_assoc] using hx8
  | true =>
    by_cases hla : sb ld = sb av
    · have hq := eq_true_of hla
      go_wp2_with fail
      refine (uv2 B v5 _ w5 hx5 hB5 (by simp only [List.length_append, List.length_singleton]; omega)).mono ?_
      rintro e w6 ⟨v6, rfl, hx6, st6⟩
      have s6 := s5.trans st6
      have hc6 := s6.cells w.heap.size hlt1 hne
      have hd6 := s6.cells (w.heap.size + 1) hlt2 hne2
      have hB6 : B ≤ w6.heap.size := Nat.le_trans hB5 st6.size
      clear hc5 hd5
      go_wp2_with fail
      refine (val0 B v6 _ w6 hx6 hB6 (by simp only [List.length_append, List.length_singleton]; omega)).mono ?_
      rintro e w7 ⟨v7, rfl, hx7, st7⟩
      have s7 := s6.trans st7
      have hc7 := s7.cells w.heap.size hlt1 hne
      have hd7 := s7.cells (w.heap.size + 1) hlt2 hne2
      have hB7 : B ≤ w7.heap.size := Nat.le_trans hB6 st7.size
      clear hc6 hd6
      go_wp2_with fail
      refine (uvarint_any B seen h5 v7 _ w7 hx7 hB7 (by simp only [List.length_append, List.length_singleton]; omega)).mono ?_
      rintro e w8 ⟨v8, rfl, hx8, st8⟩
      go_wp2
      go_ret
      refine ⟨_, rfl, ?_, st0.trans (s7.trans st8)⟩
      simpa [bodySlot, code, told, hla, List.append_assoc] using hx8
    · have hq := eq_false_of hla
      go_wp2_with fail
      go_quiet (fail)
      have hbq : Below w5.heap.size w5 (w5.drewN nq) := below_drewN (Below.refl _ _) nq
      obtain ⟨wq, hwq⟩ : ∃ wq, wq = w5.drewN nq := ⟨_, rfl⟩
      rw [← hwq] at hbq ⊢
      clear hwq
      have hxq := hx5.below hbq
      have sq := s5.below hbq
      have hcq := sq.cells w.heap.size hlt1 hne
      have hdq := sq.cells (w.heap.size + 1) hlt2 hne2
      have hBq : B ≤ wq.heap.size := Nat.le_trans hB5 hbq.size
      clear hc5 hd5 hx5 s5 hB5
      go_wp2_with fail
      refine (uv1 B v5 _ wq hxq hBq (by simp only [List.length_append, List.length_singleton]; omega)).mono ?_
      rintro e w6 ⟨v6, rfl, hx6, st6⟩
      have s6 := sq.trans st6
      have hc6 := s6.cells w.heap.size hlt1 hne
      have hd6 := s6.cells (w.heap.size + 1) hlt2 hne2
      have hB6 : B ≤ w6.heap.size := Nat.le_trans hBq st6.size
      clear hcq hdq
      go_wp2_with fail
      refine (value_any B ld v6 _ w6 hx6 hB6 (by simp only [List.length_append, List.length_singleton]; omega)).mono ?_
      rintro e w7 ⟨v7, rfl, hx7, st7⟩
      have s7 := s6.trans st7
      have hc7 := s7.cells w.heap.size hlt1 hne
      have hd7 := s7.cells (w.heap.size + 1) hlt2 hne2
      have hB7 : B ≤ w7.heap.size := Nat.le_trans hB6 st7.size
      clear hc6 hd6
      go_wp2_with fail
      refine (uvarint_any B seen h5 v7 _ w7 hx7 hB7 (by simp only [List.length_append, List.length_singleton]; omega)).mono ?_
      rintro e w8 ⟨v8, rfl, hx8, st8⟩
      go_wp2
      go_ret
      refine ⟨_, rfl, ?_, st0.trans (s7.trans st8)⟩
      simpa [bodySlot, code, told, hla, List.append_assoc] using hx8
end Go.Proofs.Qxb6613904a
