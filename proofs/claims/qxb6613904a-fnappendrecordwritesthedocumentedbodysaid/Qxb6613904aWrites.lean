/-
  The walk of 'FnAppendRecordWritesTheDocumentedBody'.
-/
import Derived.Test.Qxb6613904aClone
namespace Go.Proofs.Qxb6613904a.Writes
open Go.RowKit Go.Proofs.Qxb6613904a
open Go.Lib (uvarint)
set_option linter.unusedVariables false

/-- The fourteen cells of a record. -/
def At14 (w : World) (g : Nat) (slot pC pN aC aN : Nat) (av ld : ByteArray) (hl : Bool) (seen lC lN lS start : Nat) (mem : ByteArray) : Prop :=
  w.cell? ⟨g, 0, none⟩ = some (.int .u64 slot) ∧ w.cell? ⟨g, 1, none⟩ = some (.int .u64 pC) ∧ w.cell? ⟨g, 2, none⟩ = some (.int .u32 pN) ∧ w.cell? ⟨g, 3, none⟩ = some (.int .u64 aC) ∧ w.cell? ⟨g, 4, none⟩ = some (.int .u32 aN) ∧ w.cell? ⟨g, 5, none⟩ = some (.string av) ∧ w.cell? ⟨g, 6, none⟩ = some (.string ld) ∧ w.cell? ⟨g, 7, none⟩ = some (.bool hl) ∧ w.cell? ⟨g, 8, none⟩ = some (.int .u64 seen) ∧ w.cell? ⟨g, 9, none⟩ = some (.int .u64 lC) ∧ w.cell? ⟨g, 10, none⟩ = some (.int .u32 lN) ∧ w.cell? ⟨g, 11, none⟩ = some (.int .u64 lS) ∧ w.cell? ⟨g, 12, none⟩ = some (.int .u64 start) ∧ w.cell? ⟨g, 13, none⟩ = some (.string mem)
theorem At14.below {w w' : World} {g slot pC pN aC aN : Nat} {av ld : ByteArray} {hl : Bool} {seen lC lN lS start : Nat} {mem : ByteArray} (h : At14 w g slot pC pN aC aN av ld hl seen lC lN lS start mem) (hb : Below w.heap.size w w') : At14 w' g slot pC pN aC aN av ld hl seen lC lN lS start mem := by
  obtain ⟨c0, c1, c2, c3, c4, c5, c6, c7, c8, c9, c10, c11, c12, c13⟩ := h
  exact ⟨keepcell hb c0, keepcell hb c1, keepcell hb c2, keepcell hb c3, keepcell hb c4, keepcell hb c5, keepcell hb c6, keepcell hb c7, keepcell hb c8, keepcell hb c9, keepcell hb c10, keepcell hb c11, keepcell hb c12, keepcell hb c13⟩
theorem At14.new (X : World) {H : Nat} (hH : X.heap.size = H) (slot pC pN aC aN : Nat) (av ld : ByteArray) (hl : Bool) (seen lC lN lS start : Nat) (mem : ByteArray) : At14 (X.alloc (.cells (cells14 slot pC pN aC aN av ld hl seen lC lN lS start mem) 32)) H slot pC pN aC aN av ld hl seen lC lN lS start mem := by
  subst hH
  refine ⟨?_, ?_, ?_, ?_, ?_, ?_, ?_, ?_, ?_, ?_, ?_, ?_, ?_, ?_⟩ <;> simp

theorem nil_below {w w' : World} {v' : Value} (h : Step w (.slice none 0 0) w' v') : Below w.heap.size w w' :=
  ⟨h.1.os, h.1.tape, h.1.output, h.1.size, fun k hk => h.1.block k hk (by simp [Value.ownBlock])⟩
theorem body_pos (r : Rec) : 0 < (body r).length := by
  unfold body
  (repeat' split) <;> simp [bodyStart, bodyMem, bodyLog, bodySlot]
theorem own_byt {B : Nat} {w : World} {v : Value} {xs : List UInt8} (h : Own B w v xs) : Byt w v xs := by
  by_cases hp : 0 < xs.length
  · obtain ⟨g, cap, hv, hg, h1, h2, hc⟩ := h.form hp
    exact .inr ⟨_, cap, hv, fun j hj => by rw [Go.WideShapes.add_plain, Nat.zero_add]; exact hc j hj⟩
  · have h0 : xs.length = 0 := by omega
    have hx : xs = [] := List.eq_nil_of_length_eq_zero h0
    subst hx
    obtain ⟨hl, ⟨rfl, _⟩ | ⟨g, cap, cur, rfl, _⟩⟩ := h
    · exact .inl ⟨rfl, rfl⟩
    · exact .inr ⟨_, cap, rfl, fun j hj => by simp at hj⟩
/-- The value's form, whatever its length. -/
theorem own_form {B : Nat} {w : World} {v : Value} {xs : List UInt8} (h : Own B w v xs) : ∃ ao cap, v = .slice ao xs.length cap ∧ xs.length ≤ 9223372036854775807 ∧ (0 < xs.length → ∃ g, ao = some ⟨g, 0, none⟩ ∧ g < w.heap.size ∧ ∀ j (hj : j < xs.length), w.cell? ⟨g, j, none⟩ = some (.int .u8 (xs[j].toNat))) := by
  have hlen := h.len
  unfold maxLen at hlen
  by_cases hp : 0 < xs.length
  · obtain ⟨g, cap, hv, hg, h1, h2, hc⟩ := h.form hp
    exact ⟨_, cap, hv, by omega, fun _ => ⟨g, rfl, hg, hc⟩⟩
  · have h0 : xs.length = 0 := by omega
    have hx : xs = [] := List.eq_nil_of_length_eq_zero h0
    subst hx
    obtain ⟨hl, ⟨rfl, _⟩ | ⟨g, cap, cur, rfl, _⟩⟩ := h
    · exact ⟨_, _, rfl, by omega, fun h => absurd h hp⟩
    · exact ⟨_, _, rfl, by omega, fun h => absurd h hp⟩

set_option maxRecDepth 100000 in
set_option maxHeartbeats 4000000 in
theorem walk_big (a : Option Addr) (len cap : Nat) (slot pC pN aC aN : Nat) (av ld : ByteArray) (hl : Bool) (seen lC lN lS start : Nat) (mem : ByteArray) (w : World)
    (hlen : len ≤ maxLen) (hm : mem.size ≤ maxLen) (ha : av.size ≤ maxLen) (hd : ld.size ≤ maxLen)
    (hbig : 1048576 < len + mem.size + av.size + ld.size) :
    Calls Try.prog 3 #[.slice a len cap, .agg (cells14 slot pC pN aC aN av ld hl seen lC lN lS start mem)] w fun e w' => e = .returned (.bool true) ∧ Below w.heap.size w w' := by
  have hb2 : Below w.heap.size w (w.alloc (.cells (cells14 slot pC pN aC aN av ld hl seen lC lN lS start mem) 32)) := (Below.refl _ _).alloc (Nat.le_refl _) _
  unfold cells14 at *
  unfold maxLen at hlen hm ha hd
  go_enter Try.func3, Try.ntmps3
  go_wp2_with fail
  refine (bytes5_any a len cap slot pC pN aC aN av ld hl seen lC lN lS start mem _).mono ?_
  rintro e w2 ⟨⟨b, rfl⟩, hb⟩
  have hbw := hb2.trans (hb.mono hb2.size)
  obtain ⟨c0, c1, c2, c3, c4, c5, c6, c7, c8, c9, c10, c11, c12, c13⟩ := (At14.new w rfl slot pC pN aC aN av ld hl seen lC lN lS start mem).below hb
  cases b
  · go_wp2
    go_ret
    exact ⟨rfl, hbw⟩
  go_wp2
  all_goals (go_ret; exact ⟨rfl, hbw⟩)

set_option maxRecDepth 100000 in
set_option maxHeartbeats 8000000 in
theorem walk_small (a : Option Addr) (len cap : Nat) (xs : List UInt8) (slot pC pN aC aN : Nat) (av ld : ByteArray) (hl : Bool) (seen lC lN lS start : Nat) (mem : ByteArray) (w : World)
    (hlen : len = xs.length) (hbuf : Byt w (.slice a len cap) xs) (hf : Fits ⟨slot, pC, pN, aC, aN, av, ld, hl, seen, lC, lN, lS, start, mem⟩)
    (hsm : len + mem.size + av.size + ld.size ≤ 1048576) :
    Calls Try.prog 3 #[.slice a len cap, .agg (cells14 slot pC pN aC aN av ld hl seen lC lN lS start mem)] w fun e w' => e = .returned (.bool true) ∧ Below w.heap.size w w' := by
  have hb1 : Below w.heap.size w (w.alloc (.cells (cells14 slot pC pN aC aN av ld hl seen lC lN lS start mem) 32)) := (Below.refl _ _).alloc (Nat.le_refl _) _
  have hs : Rec.small ⟨slot, pC, pN, aC, aN, av, ld, hl, seen, lC, lN, lS, start, mem⟩ := by unfold Rec.small; simp only []; omega
  obtain ⟨X, hX⟩ : ∃ X, X = body ⟨slot, pC, pN, aC, aN, av, ld, hl, seen, lC, lN, lS, start, mem⟩ := ⟨_, rfl⟩
  have hXp : 0 < X.length := by rw [hX]; exact body_pos _
  have ca := fun v ys w' (ho : Own w.heap.size w' v ys) (h : w.heap.size ≤ w'.heap.size) (hyl : ys.length ≤ 1048576) => zzappend_any w.heap.size slot pC pN aC aN av ld hl seen lC lN lS start mem hf hs v ys w' ho h hyl
  have cr := fun v w' => reads_any slot pC pN aC aN av ld hl seen lC lN lS start mem v w' hf hs
  rw [← hX] at ca cr
  clear hX
  have hxl : xs.length ≤ 1048576 := by omega
  have HLN : Hid (len = xs.length) := hlen
  clear hlen
  unfold cells14 at *
  go_enter Try.func3, Try.ntmps3
  go_wp2_with fail
  refine (bytes5_any a len cap slot pC pN aC aN av ld hl seen lC lN lS start mem _).mono ?_
  rintro e w2 ⟨⟨b, rfl⟩, hb⟩
  have hbw := hb1.trans (hb.mono hb1.size)
  have hlt2 : w.heap.size < w2.heap.size := by have := hb.size; simp at this; omega
  have A1 := (At14.new w rfl slot pC pN aC aN av ld hl seen lC lN lS start mem).below hb
  obtain ⟨c0, c1, c2, c3, c4, c5, c6, c7, c8, c9, c10, c11, c12, c13⟩ := A1
  cases b
  · go_wp2
    go_ret
    exact ⟨rfl, hbw⟩
  have hbuf2 : Byt w2 (.slice a len cap) xs := by
    rcases hbuf with h | ⟨ad, cp, hv, hc⟩
    · exact .inl h
    · exact .inr ⟨ad, cp, hv, fun j hj => keepcell hbw (hc j hj)⟩
  clear hbuf hb1 hb
  go_wp2_with fail
  refine (clone_any w.heap.size _ xs w2 hbuf2 hxl hbw.size).mono ?_
  rintro e w3 ⟨v1, rfl, o1, hb3, n1⟩
  have A1 := At14.below ⟨c0, c1, c2, c3, c4, c5, c6, c7, c8, c9, c10, c11, c12, c13⟩ hb3
  have hbw3 := hbw.trans (hb3.mono hbw.size)
  clear c0 c1 c2 c3 c4 c5 c6 c7 c8 c9 c10 c11 c12 c13 hbuf2
  obtain ⟨c0, c1, c2, c3, c4, c5, c6, c7, c8, c9, c10, c11, c12, c13⟩ := A1
  go_wp2_with fail
  refine (clone_any w.heap.size v1 xs w3 (own_byt o1) hxl hbw3.size).mono ?_
  rintro e w4 ⟨v2, rfl, o2, hb4, n2⟩
  have A1 := At14.below ⟨c0, c1, c2, c3, c4, c5, c6, c7, c8, c9, c10, c11, c12, c13⟩ hb4
  have hbw4 := hbw3.trans (hb4.mono hbw3.size)
  have o1' := o1.below hb4
  have hne12 : v2.ownBlock = none ∨ v2.ownBlock ≠ v1.ownBlock := by
    cases h : v2.ownBlock with
    | none => exact .inl rfl
    | some k =>
      refine .inr fun e => ?_
      have := (o1.lt k e.symm).2
      have := n2 k h
      omega
  have hneb : v1.ownBlock ≠ some w.heap.size := by
    intro e
    have := n1 _ e
    omega
  clear c0 c1 c2 c3 c4 c5 c6 c7 c8 c9 c10 c11 c12 c13 o1 hbw hbw3 hb3 n2
  have A1' := A1
  obtain ⟨c0, c1, c2, c3, c4, c5, c6, c7, c8, c9, c10, c11, c12, c13⟩ := A1
  go_wp2_with fail
  refine (ca v1 xs w4 o1' hbw4.size hxl).mono ?_
  rintro e w5 ⟨v3, rfl, o3, st5⟩
  have hlt4 : w.heap.size < w4.heap.size := Nat.lt_of_lt_of_le (by simpa using World.block_lt_of_cell? w4 _ c0) (Nat.le_refl _)
  have hcs := st5.cells w.heap.size hlt4 hneb
  have A1 : At14 w5 w.heap.size slot pC pN aC aN av ld hl seen lC lN lS start mem := ⟨(hcs 0).trans c0, (hcs 1).trans c1, (hcs 2).trans c2, (hcs 3).trans c3, (hcs 4).trans c4, (hcs 5).trans c5, (hcs 6).trans c6, (hcs 7).trans c7, (hcs 8).trans c8, (hcs 9).trans c9, (hcs 10).trans c10, (hcs 11).trans c11, (hcs 12).trans c12, (hcs 13).trans c13⟩
  have o2' := o2.far (C := 0) st5 hne12
  have hbw5 : Below w.heap.size w w5 := hbw4.grown st5.1 hbw4.size (fun k hk => (o1'.lt k hk).1)
  clear c0 c1 c2 c3 c4 c5 c6 c7 c8 c9 c10 c11 c12 c13 hcs o1' o2 n1 hne12 hneb A1' hbw4 hb4 st5
  obtain ⟨c0, c1, c2, c3, c4, c5, c6, c7, c8, c9, c10, c11, c12, c13⟩ := A1
  have hp3 : 0 < (xs ++ X).length := by simp only [List.length_append]; omega
  obtain ⟨g, cap3, hv3, hg, hcap, hcm, hcg⟩ := o3.form hp3
  obtain ⟨ao, cap2, hv2, hl2, hc2⟩ := own_form o2'
  rw [hv3, hv2]
  have hlen3 : (xs ++ X).length = xs.length + X.length := List.length_append
  have hXl := o3.len
  rw [hlen3] at hcap hXl ⊢
  unfold maxLen at hcm hXl
  have hct : ∀ j (hj : j < X.length), w5.cell? ⟨g, xs.length + j, none⟩ = some (.int .u8 (X[j].toNat)) := by
    intro j hj
    rw [hcg (xs.length + j) (by omega)]
    congr 3
    rw [List.getElem_append_right (by omega)]
    simp
  have hch : ∀ j (hj : j < xs.length), w5.cell? ⟨g, j, none⟩ = some (.int .u8 (xs[j].toNat)) := by
    intro j hj
    rw [hcg j (by omega)]
    congr 3
    rw [List.getElem_append_left hj]
  clear hcg hv3 hv2 o2' o3 hlen3 hp3
  go_wp2
  go_loopw [7] (fun i wr => ∃ k : Nat, k ≤ xs.length ∧ i = .int .i64 k ∧ Below w5.heap.size w5 wr) (fun i _ => xs.length - (intOf i).toNat)
  case atStart => exact ⟨0, Nat.zero_le _, rfl, Below.refl _ _⟩
  case round =>
    obtain ⟨k, hk, rfl, hbr⟩ := hrel
    by_cases hlt : k < xs.length
    · obtain ⟨g2, rfl, hg2, hc2'⟩ := hc2 (by omega)
      have e1 : wr.cell? ⟨g, k, none⟩ = some (.int .u8 (xs[k].toNat)) := (hbr.cell (p := ⟨g, k, none⟩) hg).trans (hch k hlt)
      have e2 : wr.cell? ⟨g2, k, none⟩ = some (.int .u8 (xs[k].toNat)) := (hbr.cell (p := ⟨g2, k, none⟩) hg2).trans (hc2' k hlt)
      obtain ⟨z, hz⟩ : ∃ z, z = xs[k].toNat := ⟨_, rfl⟩
      rw [← hz] at e1 e2
      clear hz hc2 hc2' hch hct
      have z1 : (0 : Int) ≤ (k : Int) := by omega
      have z2 : (k : Int) < (xs.length : Int) := by omega
      have z3 : (k : Int) < (xs.length : Int) + (X.length : Int) := by omega
      go_wp2
      go_quiet (fail)
      go_wp2
      go_roundw
      case rel => exact ⟨k + 1, by omega, by go_num, below_drewN hbr nq⟩
      case measure => simp [intOf]; omega
    · have A1 := At14.below ⟨c0, c1, c2, c3, c4, c5, c6, c7, c8, c9, c10, c11, c12, c13⟩ hbr
      have hbwr := hbw5.trans (hbr.mono hbw5.size)
      have hct' : ∀ j (hj : j < X.length), wr.cell? ⟨g, xs.length + j, none⟩ = some (.int .u8 (X[j].toNat)) := fun j hj => (hbr.cell (p := ⟨g, xs.length + j, none⟩) hg).trans (hct j hj)
      have hseg : Seg wr (.slice (some ⟨g, xs.length, none⟩) X.length (cap3 - xs.length)) X := ⟨g, xs.length, _, rfl, Nat.lt_of_lt_of_le hg hbr.size, by omega, hct'⟩
      clear c0 c1 c2 c3 c4 c5 c6 c7 c8 c9 c10 c11 c12 c13 hch hct hct' hc2 hbw5
      obtain ⟨c0, c1, c2, c3, c4, c5, c6, c7, c8, c9, c10, c11, c12, c13⟩ := A1
      have z1 : (0 : Int) ≤ (xs.length : Int) := by omega
      have z2 : (xs.length : Int) ≤ (xs.length : Int) + (X.length : Int) := by omega
      have z3 : (xs.length : Int) + (X.length : Int) ≤ (cap3 : Int) := by omega
      have z4 : xs.length < cap3 := by omega
      go_wp2_with fail
      refine (cr _ wr hseg).mono ?_
      rintro e w7 ⟨rfl, hb7⟩
      have A1 := At14.below ⟨c0, c1, c2, c3, c4, c5, c6, c7, c8, c9, c10, c11, c12, c13⟩ hb7
      have hbw7 := hbwr.trans (hb7.mono hbwr.size)
      have hseg7 := hseg.below hb7
      clear c0 c1 c2 c3 c4 c5 c6 c7 c8 c9 c10 c11 c12 c13 hseg hbwr hb7
      obtain ⟨c0, c1, c2, c3, c4, c5, c6, c7, c8, c9, c10, c11, c12, c13⟩ := A1
      go_wp2_with fail
      refine (ca (.slice none 0 0) [] w7 (Own.nil _ _) hbw7.size (by simp)).mono ?_
      rintro e w8 ⟨v4, rfl, o4, st8⟩
      have hb8 := nil_below st8
      rw [List.nil_append] at o4
      have s4 := o4.seg hXp
      have hbw8 := hbw7.trans (hb8.mono hbw7.size)
      have hseg8 := hseg7.below hb8
      go_wp2_with fail
      refine (byteseq_any _ _ X X w8 s4 hseg8).mono ?_
      rintro e w9 ⟨rfl, hb9⟩
      go_wp2
      go_ret
      exact ⟨fin_bool (by simp), hbw8.trans (hb9.mono hbw8.size)⟩

theorem walk (a : Option Addr) (len cap : Nat) (xs : List UInt8) (slot pC pN aC aN : Nat) (av ld : ByteArray) (hl : Bool) (seen lC lN lS start : Nat) (mem : ByteArray) (w : World)
    (hlen : len = xs.length) (hbuf : Byt w (.slice a len cap) xs) (hf : Fits ⟨slot, pC, pN, aC, aN, av, ld, hl, seen, lC, lN, lS, start, mem⟩)
    (hlm : len ≤ maxLen) (hm : mem.size ≤ maxLen) (ha : av.size ≤ maxLen) (hd : ld.size ≤ maxLen) :
    Calls Try.prog 3 #[.slice a len cap, .agg (cells14 slot pC pN aC aN av ld hl seen lC lN lS start mem)] w fun e w' => e = .returned (.bool true) ∧ Below w.heap.size w w' := by
  by_cases h : len + mem.size + av.size + ld.size ≤ 1048576
  · exact walk_small a len cap xs slot pC pN aC aN av ld hl seen lC lN lS start mem w hlen hbuf hf h
  · exact walk_big a len cap slot pC pN aC aN av ld hl seen lC lN lS start mem w hlm hm ha hd (by omega)
end Go.Proofs.Qxb6613904a.Writes
