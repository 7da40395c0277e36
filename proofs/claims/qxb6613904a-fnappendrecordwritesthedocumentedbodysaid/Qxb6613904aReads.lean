/-
  zzRecordReadsAs on the body of the record: true.
-/
import Derived.Test.Qxb6613904aRead
namespace Go.Proofs.Qxb6613904a
open Go.RowKit
open Go.Lib (uvarint)
set_option linter.unusedVariables false

theorem Seg.head {w : World} {v : Value} {b : UInt8} {xs : List UInt8} (h : Seg w v (b :: xs)) : ∃ g off cap, v = .slice (some ⟨g, off, none⟩) (xs.length + 1) cap ∧ xs.length + 1 ≤ 9223372036854775807 ∧ w.cell? ⟨g, off, none⟩ = some (.int .u8 b.toNat) := by
  obtain ⟨g, off, cap, hv, hg, hl, hc⟩ := h
  exact ⟨g, off, cap, hv, by simpa using hl, by have := hc 0 (by simp); simpa using this⟩

set_option maxRecDepth 100000 in
set_option maxHeartbeats 2000000 in
theorem reads_start (slot pC pN aC aN : Nat) (av ld : ByteArray) (hl : Bool) (seen lC lN lS start : Nat) (mem : ByteArray) (v : Value) (w : World)
    (h1 : start ≠ 0) (f9 : start < 18446744073709551616) (hs : Seg w v (bodyStart start)) :
    Calls Try.prog 8 #[v, .agg (cells14 slot pC pN aC aN av ld hl seen lC lN lS start mem)] w fun e w' => e = .returned (.bool true) ∧ Below w.heap.size w w' := by
  have hb0 : Below w.heap.size w (w.alloc (.cells (cells14 slot pC pN aC aN av ld hl seen lC lN lS start mem) 32)) := (Below.refl _ _).alloc (Nat.le_refl _) _
  have hs' := hs.below hb0
  have c := expuv_any v (bodyStart start) [4] [] start f9 _ hs' (by simp [bodyStart])
  rw [List.length_singleton] at c
  obtain ⟨g, off, cap, hv, hl1, hc0⟩ := hs'.head
  rw [hv] at c ⊢
  have hst0 : ((start : Int) != 0) = true := by simp; omega
  obtain ⟨N, hN⟩ : ∃ N, N = (uvarint start).length := ⟨_, rfl⟩
  rw [← hN] at c hl1 ⊢
  clear hs hs' hv hN
  unfold cells14 at *
  go_enter Try.func8, Try.ntmps8
  go_wp2_with fail
  refine c.mono ?_
  rintro e w' ⟨rfl, rfl⟩
  go_wp2
  go_ret
  refine ⟨fin_bool ?_, hb0⟩
  simp; omega

set_option maxRecDepth 100000 in
set_option maxHeartbeats 2000000 in
theorem reads_mem (slot pC pN aC aN : Nat) (av ld : ByteArray) (hl : Bool) (seen lC lN lS start : Nat) (mem : ByteArray) (v : Value) (w : World)
    (h1 : start = 0) (h2 : sb mem ≠ []) (hsz : mem.size ≤ 1048576) (hs : Seg w v (bodyMem mem)) :
    Calls Try.prog 8 #[v, .agg (cells14 slot pC pN aC aN av ld hl seen lC lN lS start mem)] w fun e w' => e = .returned (.bool true) ∧ Below w.heap.size w w' := by
  have hst0 : ((start : Int) != 0) = false := by simp [h1]
  clear h1
  have hb0 : Below w.heap.size w (w.alloc (.cells (cells14 slot pC pN aC aN av ld hl seen lC lN lS start mem) 32)) := (Below.refl _ _).alloc (Nat.le_refl _) _
  have hs' := hs.below hb0
  have c := expval_any v (bodyMem mem) [5] [] mem hsz _ hs' (by simp [bodyMem])
  rw [List.length_singleton] at c
  obtain ⟨g, off, cap, hv, hl1, hc0⟩ := hs'.head
  rw [hv] at c ⊢
  have hmt := nonempty_of h2
  obtain ⟨N, hN⟩ : ∃ N, N = (valB mem).length := ⟨_, rfl⟩
  rw [← hN] at c hl1 ⊢
  clear hs hs' hv hN
  unfold cells14 at *
  go_enter Try.func8, Try.ntmps8
  go_wp2_with fail
  refine c.mono ?_
  rintro e w' ⟨rfl, hbk⟩
  go_wp2
  go_ret
  refine ⟨fin_bool ?_, hb0.trans (hbk.mono (by simp))⟩
  simp; omega

set_option maxRecDepth 100000 in
set_option maxHeartbeats 2000000 in
theorem reads_log (slot pC pN aC aN : Nat) (av ld : ByteArray) (hl : Bool) (seen lC lN lS start : Nat) (mem : ByteArray) (v : Value) (w : World)
    (h1 : start = 0) (h2 : sb mem = []) (h3 : slot = 0) (f6 : lC < 18446744073709551616) (f7 : lN < 4294967296) (f8 : lS < 18446744073709551616) (hs : Seg w v (bodyLog lC lN lS)) :
    Calls Try.prog 8 #[v, .agg (cells14 slot pC pN aC aN av ld hl seen lC lN lS start mem)] w fun e w' => e = .returned (.bool true) ∧ Below w.heap.size w w' := by
  have hst0 : ((start : Int) != 0) = false := by simp [h1]
  have hsl0 : ((slot : Int) == 0) = true := by simp [h3]
  clear h1 h3
  have hb0 : Below w.heap.size w (w.alloc (.cells (cells14 slot pC pN aC aN av ld hl seen lC lN lS start mem) 32)) := (Below.refl _ _).alloc (Nat.le_refl _) _
  have hs' := hs.below hb0
  have i11 : (w.alloc (.cells (cells14 slot pC pN aC aN av ld hl seen lC lN lS start mem) 32)).cell? ⟨w.heap.size, 11, none⟩ = some (.int .u64 lS) := by simp
  have c := expgen_any v (bodyLog lC lN lS) [2] (uvarint lS) lC lN f6 f7 _ hs' (by simp [bodyLog])
  rw [List.length_singleton] at c
  have c2 := fun w' (h : Seg w' v (bodyLog lC lN lS)) => expuv_any v (bodyLog lC lN lS) ([2] ++ genB lC lN) [] lS f8 w' h (by simp [bodyLog])
  have e1 : ([2] ++ genB lC lN).length = 1 + (genB lC lN).length := by simp; omega
  rw [e1] at c2
  obtain ⟨g, off, cap, hv, hl1, hc0⟩ := hs'.head
  have hme := empty_of h2
  obtain ⟨N, hN⟩ : ∃ N, N = (genB lC lN).length := ⟨_, rfl⟩
  obtain ⟨M, hM⟩ : ∃ M, M = (uvarint lS).length := ⟨_, rfl⟩
  rw [← hN] at c
  rw [← hN, ← hM] at c2
  rw [List.length_append, ← hN, ← hM] at hl1 hv
  have HS := hs'
  rw [hv] at c c2 HS ⊢
  clear hs hs' hv hN hM e1
  unfold cells14 at *
  go_enter Try.func8, Try.ntmps8
  go_wp2_with fail
  refine c.mono ?_
  rintro e w2 ⟨rfl, hbk⟩
  have hk := keepcell hbk i11
  go_wp2_with fail
  refine (c2 _ (HS.below hbk)).mono ?_
  rintro e w' ⟨rfl, rfl⟩
  go_wp2
  go_ret
  refine ⟨fin_bool ?_, hb0.trans (hbk.mono (by simp))⟩
  simp; omega

theorem At8.new28 (X : World) {H : Nat} (hH : X.heap.size = H) (pC pN aC aN : Nat) (av ld : ByteArray) (hl : Bool) (seen : Nat) : At8 (X.alloc (.cells (cells8 pC pN aC aN av ld hl seen) 28)) H pC pN aC aN av ld hl seen := by
  subst hH
  refine ⟨?_, ?_, ?_, ?_, ?_, ?_, ?_, ?_⟩ <;> simp

set_option maxRecDepth 100000 in
set_option maxHeartbeats 8000000 in
theorem reads_slot (slot pC pN aC aN : Nat) (av ld : ByteArray) (hl : Bool) (seen lC lN lS start : Nat) (mem : ByteArray) (v : Value) (w : World)
    (h1 : start = 0) (h2 : sb mem = []) (h3 : slot ≠ 0) (f0 : slot < 18446744073709551616) (f1 : pC < 18446744073709551616) (f2 : pN < 4294967296) (f3 : aC < 18446744073709551616) (f4 : aN < 4294967296) (f5 : seen < 18446744073709551616)
    (hav : av.size ≤ 1048576) (hld : ld.size ≤ 1048576) (hs : Seg w v (bodySlot slot pC pN aC aN av (code hl ld av) (told hl ld av) seen)) :
    Calls Try.prog 8 #[v, .agg (cells14 slot pC pN aC aN av ld hl seen lC lN lS start mem)] w fun e w' => e = .returned (.bool true) ∧ Below w.heap.size w w' := by
  have hst0 : ((start : Int) != 0) = false := by simp [h1]
  have hsl0 : ((slot : Int) == 0) = false := by simp; omega
  clear h1 h3
  have hme := empty_of h2
  have hb0 : Below w.heap.size w ((w.alloc (.cells (cells14 slot pC pN aC aN av ld hl seen lC lN lS start mem) 32)).alloc (.cells (cells8 pC pN aC aN av ld hl seen) 28)) := two_below _ _ _
  have hs0 := hs.below hb0
  obtain ⟨C, hC⟩ : ∃ C, C = code hl ld av := ⟨_, rfl⟩
  obtain ⟨T, hT⟩ : ∃ T, T = told hl ld av := ⟨_, rfl⟩
  have hC1 : C < 18446744073709551616 := by rw [hC]; unfold code; (repeat' split) <;> omega
  have hT1 : T.size ≤ 1048576 := by rw [hT]; unfold told; (repeat' split) <;> first | decide | exact hld
  rw [← hC, ← hT] at hs hs0
  obtain ⟨L, hL⟩ : ∃ L, L = bodySlot slot pC pN aC aN av C T seen := ⟨_, rfl⟩
  have c1 := fun w' (h : Seg w' v L) => expuv_any v L [1] (genB pC pN ++ (genB aC aN ++ (valB av ++ (uvarint C ++ (valB T ++ uvarint seen))))) slot f0 w' h (by rw [hL]; rfl)
  have c2 := fun w' (h : Seg w' v L) => expgen_any v L ([1] ++ uvarint slot) (genB aC aN ++ (valB av ++ (uvarint C ++ (valB T ++ uvarint seen)))) pC pN f1 f2 w' h (by rw [hL, bodySlot]; simp)
  have c3 := fun w' (h : Seg w' v L) => expgen_any v L ([1] ++ uvarint slot ++ genB pC pN) (valB av ++ (uvarint C ++ (valB T ++ uvarint seen))) aC aN f3 f4 w' h (by rw [hL, bodySlot]; simp)
  have c4 := fun w' (h : Seg w' v L) => expval_any v L ([1] ++ uvarint slot ++ genB pC pN ++ genB aC aN) (uvarint C ++ (valB T ++ uvarint seen)) av hav w' h (by rw [hL, bodySlot]; simp)
  have c5 := fun w' (h : Seg w' v L) => expuv_any v L ([1] ++ uvarint slot ++ genB pC pN ++ genB aC aN ++ valB av) (valB T ++ uvarint seen) C hC1 w' h (by rw [hL, bodySlot]; simp)
  have c6 := fun w' (h : Seg w' v L) => expval_any v L ([1] ++ uvarint slot ++ genB pC pN ++ genB aC aN ++ valB av ++ uvarint C) (uvarint seen) T hT1 w' h (by rw [hL, bodySlot]; simp)
  have c7 := fun w' (h : Seg w' v L) => expuv_any v L ([1] ++ uvarint slot ++ genB pC pN ++ genB aC aN ++ valB av ++ uvarint C ++ valB T) [] seen f5 w' h (by rw [hL, bodySlot]; simp)
  have hLl : 1 + (uvarint slot).length + (genB pC pN).length + (genB aC aN).length + (valB av).length + (uvarint C).length + (valB T).length + (uvarint seen).length = L.length := by
    rw [hL, bodySlot]; simp only [List.length_cons, List.length_append]; omega
  rw [← hL] at hs hs0
  simp only [List.length_append, List.length_singleton] at c1 c2 c3 c4 c5 c6 c7
  obtain ⟨P1, h1⟩ : ∃ P, P = 1 + (uvarint slot).length := ⟨_, rfl⟩
  simp only [← h1] at c1 c2 c3 c4 c5 c6 c7 hLl
  obtain ⟨P2, h2⟩ : ∃ P, P = P1 + (genB pC pN).length := ⟨_, rfl⟩
  simp only [← h2] at c2 c3 c4 c5 c6 c7 hLl
  obtain ⟨P3, h3⟩ : ∃ P, P = P2 + (genB aC aN).length := ⟨_, rfl⟩
  simp only [← h3] at c3 c4 c5 c6 c7 hLl
  obtain ⟨P4, h4⟩ : ∃ P, P = P3 + (valB av).length := ⟨_, rfl⟩
  simp only [← h4] at c4 c5 c6 c7 hLl
  obtain ⟨P5, h5⟩ : ∃ P, P = P4 + (uvarint C).length := ⟨_, rfl⟩
  simp only [← h5] at c5 c6 c7 hLl
  obtain ⟨P6, h6⟩ : ∃ P, P = P5 + (valB T).length := ⟨_, rfl⟩
  simp only [← h6] at c6 c7 hLl
  obtain ⟨P7, h7⟩ : ∃ P, P = P6 + (uvarint seen).length := ⟨_, rfl⟩
  simp only [← h7] at c7 hLl
  have HP : Hid (P7 = L.length) := hLl
  obtain ⟨tl, htl⟩ : ∃ tl, L = 1 :: tl := ⟨_, hL⟩
  have hsx := hs.below ((Below.refl w.heap.size w).alloc (Nat.le_refl _) (.cells (cells14 slot pC pN aC aN av ld hl seen lC lN lS start mem) 32))
  obtain ⟨g, off, cap, hv, hl1, hc0⟩ := (htl ▸ hsx).head
  have hlen1 : tl.length + 1 = L.length := by rw [htl]; rfl
  rw [hlen1] at hv hl1
  have hLpos : 0 < L.length := by omega
  rw [hv] at c1 c2 c3 c4 c5 c6 c7 hs0 ⊢
  have HC : Hid (C = code hl ld av) := hC
  have HT : Hid (T = told hl ld av) := hT
  clear hs hsx hv hL htl hlen1 h1 h2 h3 h4 h5 h6 h7 hLl hC hT
  obtain ⟨q0, q1, q2, q3, q4, q5, q6, q7⟩ := At8.new28 (w.alloc (.cells (cells14 slot pC pN aC aN av ld hl seen lC lN lS start mem) 32)) (H := w.heap.size + 1) (by simp) pC pN aC aN av ld hl seen
  unfold cells14 cells8 at *
  go_enter Try.func8, Try.ntmps8
  go_wp2_with fail
  refine (c1 _ hs0).mono ?_
  rintro e w' ⟨rfl, rfl⟩
  go_wp2_with fail
  refine (c2 _ hs0).mono ?_
  rintro e w2 ⟨rfl, hb2⟩
  have hs2 := hs0.below hb2
  have hq2 := At8.below ⟨q0, q1, q2, q3, q4, q5, q6, q7⟩ hb2
  have hbb2 := hb0.trans (hb2.mono hb0.size)
  clear q0 q1 q2 q3 q4 q5 q6 q7 hs0 hb0 hb2
  obtain ⟨q0, q1, q2, q3, q4, q5, q6, q7⟩ := hq2
  go_wp2_with fail
  refine (c3 w2 hs2).mono ?_
  rintro e w3 ⟨rfl, hb3⟩
  have hs3 := hs2.below hb3
  have hq3 := At8.below ⟨q0, q1, q2, q3, q4, q5, q6, q7⟩ hb3
  have hbb3 := hbb2.trans (hb3.mono hbb2.size)
  clear q0 q1 q2 q3 q4 q5 q6 q7 hs2 hbb2 hb3
  obtain ⟨q0, q1, q2, q3, q4, q5, q6, q7⟩ := hq3
  go_wp2_with fail
  refine (c4 w3 hs3).mono ?_
  rintro e w4 ⟨rfl, hb4⟩
  have hs4 := hs3.below hb4
  have hq4 := At8.below ⟨q0, q1, q2, q3, q4, q5, q6, q7⟩ hb4
  have hbb4 := hbb3.trans (hb4.mono hbb3.size)
  clear q0 q1 q2 q3 q4 q5 q6 q7 hs3 hbb3 hb4
  obtain ⟨q0, q1, q2, q3, q4, q5, q6, q7⟩ := hq4
  cases hl with
  | false =>
    have e1 : C = 0 := by rw [HC.out]; simp [code]
    have e2 : T = ByteArray.empty := by rw [HT.out]; simp [told]
    subst e1 e2
    go_wp2_with fail
    refine (c5 w4 hs4).mono ?_
    rintro e w' ⟨rfl, rfl⟩
    go_wp2_with fail
    refine (c6 w4 hs4).mono ?_
    rintro e w6 ⟨rfl, hb6⟩
    have hs6 := hs4.below hb6
    have hq6 := At8.below ⟨q0, q1, q2, q3, q4, q5, q6, q7⟩ hb6
    have hbb6 := hbb4.trans (hb6.mono hbb4.size)
    clear q0 q1 q2 q3 q4 q5 q6 q7 hs4 hbb4 hb6
    obtain ⟨q0, q1, q2, q3, q4, q5, q6, q7⟩ := hq6
    go_wp2_with fail
    refine (c7 w6 hs6).mono ?_
    rintro e w' ⟨rfl, rfl⟩
    go_wp2
    go_ret
    refine ⟨fin_bool ?_, hbb6⟩
    have := HP.out
    simp; omega
  | true =>
    by_cases hla : sb ld = sb av
    · have hq := eq_true_of hla
      have e1 : C = 2 := by rw [HC.out]; simp [code, hla]
      have e2 : T = ByteArray.empty := by rw [HT.out]; simp [told, hla]
      subst e1 e2
      go_wp2_with fail
      refine (c5 w4 hs4).mono ?_
      rintro e w' ⟨rfl, rfl⟩
      go_wp2_with fail
      refine (c6 w4 hs4).mono ?_
      rintro e w6 ⟨rfl, hb6⟩
      have hs6 := hs4.below hb6
      have hq6 := At8.below ⟨q0, q1, q2, q3, q4, q5, q6, q7⟩ hb6
      have hbb6 := hbb4.trans (hb6.mono hbb4.size)
      clear q0 q1 q2 q3 q4 q5 q6 q7 hs4 hbb4 hb6
      obtain ⟨q0, q1, q2, q3, q4, q5, q6, q7⟩ := hq6
      go_wp2_with fail
      refine (c7 w6 hs6).mono ?_
      rintro e w' ⟨rfl, rfl⟩
      go_wp2
      go_ret
      refine ⟨fin_bool ?_, hbb6⟩
      have := HP.out
      simp; omega
    · have hq := eq_false_of hla
      have e1 : C = 1 := by rw [HC.out]; simp [code, hla]
      have e2 : T = ld := by rw [HT.out]; simp [told, hla]
      subst e1 e2
      go_wp2_with fail
      refine (c5 w4 hs4).mono ?_
      rintro e w' ⟨rfl, rfl⟩
      go_wp2_with fail
      refine (c6 w4 hs4).mono ?_
      rintro e w6 ⟨rfl, hb6⟩
      have hs6 := hs4.below hb6
      have hq6 := At8.below ⟨q0, q1, q2, q3, q4, q5, q6, q7⟩ hb6
      have hbb6 := hbb4.trans (hb6.mono hbb4.size)
      clear q0 q1 q2 q3 q4 q5 q6 q7 hs4 hbb4 hb6
      obtain ⟨q0, q1, q2, q3, q4, q5, q6, q7⟩ := hq6
      go_wp2_with fail
      refine (c7 w6 hs6).mono ?_
      rintro e w' ⟨rfl, rfl⟩
      go_wp2
      go_ret
      refine ⟨fin_bool ?_, hbb6⟩
      have := HP.out
      simp; omega
end Go.Proofs.Qxb6613904a
