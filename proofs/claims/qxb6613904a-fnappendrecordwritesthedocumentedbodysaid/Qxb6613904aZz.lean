/-
  ZZappendRecord, zzGenOf, zzAppend: the body of the record behind the bytes that were there.
-/
import Derived.Test.Qxb6613904aRecord
namespace Go.Proofs.Qxb6613904a
open Go.RowKit
open Go.Lib (uvarint)
set_option linter.unusedVariables false

abbrev Rec.cells (r : Rec) : Array Value := cells14 r.slot r.pC r.pN r.aC r.aN r.av r.ld r.hl r.seen r.lC r.lN r.lS r.start r.mem
/-- The bound under which the walks run. -/
def Rec.small (r : Rec) : Prop := r.av.size + r.ld.size + r.mem.size ≤ 1048576

theorem record_any (B : Nat) (r : Rec) (hf : Fits r) (hs : r.small) (v : Value) (xs : List UInt8) (w : World) (hown : Own B w v xs) (hBw : B ≤ w.heap.size) (hlim : xs.length ≤ 1048576) :
    Calls Try.prog 21 #[v, .agg r.cells] w fun e w' => ∃ v', e = .returned v' ∧ Own B w' v' (xs ++ body r) ∧ Step w v w' v' := by
  obtain ⟨f0, f1, f2, f3, f4, f5, f6, f7, f8, f9⟩ := hf
  unfold Rec.small at hs
  unfold body
  by_cases h1 : r.start ≠ 0
  · rw [if_pos h1]
    exact rec_start B r.slot r.pC r.pN r.aC r.aN r.av r.ld r.hl r.seen r.lC r.lN r.lS r.start r.mem v xs w h1 f9 hown hBw (by omega)
  rw [if_neg h1]
  have h1' : r.start = 0 := by omega
  by_cases h2 : sb r.mem ≠ []
  · rw [if_pos h2]
    exact rec_mem B r.slot r.pC r.pN r.aC r.aN r.av r.ld r.hl r.seen r.lC r.lN r.lS r.start r.mem v xs w h1' h2 hown hBw (by omega)
  rw [if_neg h2]
  have h2' : sb r.mem = [] := Classical.not_not.1 h2
  by_cases h3 : r.slot = 0
  · rw [if_pos h3]
    exact rec_log B r.slot r.pC r.pN r.aC r.aN r.av r.ld r.hl r.seen r.lC r.lN r.lS r.start r.mem v xs w h3 h1' h2' f6 f7 f8 hown hBw (by omega)
  · rw [if_neg h3]
    exact rec_slot B r.slot r.pC r.pN r.aC r.aN r.av r.ld r.hl r.seen r.lC r.lN r.lS r.start r.mem v xs w h3 h1' h2' f0 f1 f2 f3 f4 f5 hown hBw (by omega)

abbrev cells3 (lC lN lS : Nat) : Array Value := #[.int .u64 lC, .int .u32 lN, .int .u64 lS]

set_option maxRecDepth 100000 in
set_option maxHeartbeats 2000000 in
theorem zzrec_any (B : Nat) (slot pC pN aC aN : Nat) (av ld : ByteArray) (hl : Bool) (seen lC lN lS start : Nat) (mem : ByteArray) (hf : Fits ⟨slot, pC, pN, aC, aN, av, ld, hl, seen, lC, lN, lS, start, mem⟩) (hs : Rec.small ⟨slot, pC, pN, aC, aN, av, ld, hl, seen, lC, lN, lS, start, mem⟩) (v : Value) (xs : List UInt8) (w : World) (hown : Own B w v xs) (hBw : B ≤ w.heap.size) (hlim : xs.length ≤ 1048576) :
    Calls Try.prog 14 #[v, .int .u64 slot, .agg (cells8 pC pN aC aN av ld hl seen), .agg (cells3 lC lN lS), .int .u64 start, .string mem] w
      fun e w' => ∃ v', e = .returned v' ∧ Own B w' v' (xs ++ body ⟨slot, pC, pN, aC, aN, av, ld, hl, seen, lC, lN, lS, start, mem⟩) ∧ Step w v w' v' := by
  have hc := fun w' ho hB => record_any B ⟨slot, pC, pN, aC, aN, av, ld, hl, seen, lC, lN, lS, start, mem⟩ hf hs v xs w' ho hB hlim
  have ho2 := (hown.alloc (.cells (cells8 pC pN aC aN av ld hl seen) 46)).alloc (.cells (cells3 lC lN lS) 48)
  have hB2 : B ≤ ((w.alloc (.cells (cells8 pC pN aC aN av ld hl seen) 46)).alloc (.cells (cells3 lC lN lS) 48)).heap.size := by simp; omega
  have st0 := ((Step.refl w v).alloc (.cells (cells8 pC pN aC aN av ld hl seen) 46)).alloc (.cells (cells3 lC lN lS) 48)
  unfold cells8 cells3 at *
  go_enter Try.func14, Try.ntmps14
  go_wp2_with fail
  refine (hc _ ho2 hB2).mono ?_
  rintro e w1 ⟨v1, rfl, hx1, st1⟩
  go_wp2
  go_ret
  exact ⟨_, rfl, hx1, st0.trans st1⟩

set_option maxRecDepth 100000 in
set_option maxHeartbeats 2000000 in
theorem genOf_any (c n : Nat) (w : World) :
    Calls Try.prog 13 #[.agg #[.int .u64 c, .int .u32 n]] w fun e w' => e = .returned (.agg #[.int .u64 c, .int .u32 n]) ∧ w' = (w.alloc (.cells #[.int .u64 c, .int .u32 n] 26)).alloc (.cells #[.int .u64 c, .int .u32 n] 41) := by
  go_enter Try.func13, Try.ntmps13
  go_wp2
  exact bodyPost_ret (v := .agg #[.int .u64 c, .int .u32 n]) (by simp [results, Try.results13, go_sem]) rfl ⟨rfl, rfl⟩

theorem genOf_bel (c n : Nat) (w : World) :
    Calls Try.prog 13 #[.agg #[.int .u64 c, .int .u32 n]] w fun e w' => e = .returned (.agg #[.int .u64 c, .int .u32 n]) ∧ Below w.heap.size w w' :=
  (genOf_any c n w).mono fun e w' ⟨he, hw⟩ => ⟨he, by subst hw; exact ((Below.refl _ _).alloc (Nat.le_refl _) _).alloc (by simp) _⟩
theorem keepcell {w w' : World} {a : Addr} {x : Value} (hb : Below w.heap.size w w') (h : w.cell? a = some x) : w'.cell? a = some x := (hb.cell (World.block_lt_of_cell? w a h)).trans h

theorem keepalloc {w : World} {o : Obj} {a : Addr} {x : Value} (h : w.cell? a = some x) : (w.alloc o).cell? a = some x := keepcell ((Below.refl _ _).alloc (Nat.le_refl _) o) h

theorem keepdrew {w : World} {a : Addr} {x : Value} (h : w.cell? a = some x) : w.drew.cell? a = some x := h

/-- Eight cells in a row. -/
def At8 (w : World) (g pC pN aC aN : Nat) (av ld : ByteArray) (hl : Bool) (seen : Nat) : Prop :=
  w.cell? ⟨g, 0, none⟩ = some (.int .u64 pC) ∧ w.cell? ⟨g, 1, none⟩ = some (.int .u32 pN) ∧ w.cell? ⟨g, 2, none⟩ = some (.int .u64 aC) ∧ w.cell? ⟨g, 3, none⟩ = some (.int .u32 aN) ∧
  w.cell? ⟨g, 4, none⟩ = some (.string av) ∧ w.cell? ⟨g, 5, none⟩ = some (.string ld) ∧ w.cell? ⟨g, 6, none⟩ = some (.bool hl) ∧ w.cell? ⟨g, 7, none⟩ = some (.int .u64 seen)
def At3 (w : World) (g lC lN lS : Nat) : Prop :=
  w.cell? ⟨g, 0, none⟩ = some (.int .u64 lC) ∧ w.cell? ⟨g, 1, none⟩ = some (.int .u32 lN) ∧ w.cell? ⟨g, 2, none⟩ = some (.int .u64 lS)

theorem At8.below {w w' : World} {g pC pN aC aN : Nat} {av ld : ByteArray} {hl : Bool} {seen : Nat} (h : At8 w g pC pN aC aN av ld hl seen) (hb : Below w.heap.size w w') : At8 w' g pC pN aC aN av ld hl seen :=
  ⟨keepcell hb h.1, keepcell hb h.2.1, keepcell hb h.2.2.1, keepcell hb h.2.2.2.1, keepcell hb h.2.2.2.2.1, keepcell hb h.2.2.2.2.2.1, keepcell hb h.2.2.2.2.2.2.1, keepcell hb h.2.2.2.2.2.2.2⟩
theorem At8.new (X : World) {H : Nat} (hH : X.heap.size = H) (pC pN aC aN : Nat) (av ld : ByteArray) (hl : Bool) (seen : Nat) : At8 (X.alloc (.cells (cells8 pC pN aC aN av ld hl seen) 46)) H pC pN aC aN av ld hl seen := by
  subst hH
  refine ⟨?_, ?_, ?_, ?_, ?_, ?_, ?_, ?_⟩ <;> simp
theorem At8.alloc {w : World} {g pC pN aC aN : Nat} {av ld : ByteArray} {hl : Bool} {seen : Nat} (h : At8 w g pC pN aC aN av ld hl seen) (o : Obj) : At8 (w.alloc o) g pC pN aC aN av ld hl seen := h.below ((Below.refl _ _).alloc (Nat.le_refl _) o)
theorem At8.drew {w : World} {g pC pN aC aN : Nat} {av ld : ByteArray} {hl : Bool} {seen : Nat} (h : At8 w g pC pN aC aN av ld hl seen) : At8 w.drew g pC pN aC aN av ld hl seen := h
theorem At3.below {w w' : World} {g lC lN lS : Nat} (h : At3 w g lC lN lS) (hb : Below w.heap.size w w') : At3 w' g lC lN lS := ⟨keepcell hb h.1, keepcell hb h.2.1, keepcell hb h.2.2⟩
theorem At3.new (X : World) {H : Nat} (hH : X.heap.size = H) (lC lN lS : Nat) : At3 (X.alloc (.cells (cells3 lC lN lS) 48)) H lC lN lS := by
  subst hH
  refine ⟨?_, ?_, ?_⟩ <;> simp
theorem At3.alloc {w : World} {g lC lN lS : Nat} (h : At3 w g lC lN lS) (o : Obj) : At3 (w.alloc o) g lC lN lS := h.below ((Below.refl _ _).alloc (Nat.le_refl _) o)
theorem At3.drew {w : World} {g lC lN lS : Nat} (h : At3 w g lC lN lS) : At3 w.drew g lC lN lS := h
theorem below5 (W : World) (a b c d e : Obj) : Below W.heap.size W (((((W.alloc a).alloc b).alloc c).alloc d).alloc e).drew :=
  (((((((Below.refl W.heap.size W).alloc (Nat.le_refl _) a).alloc (by simp) b).alloc (by simp; omega) c).alloc (by simp; omega) d).alloc (by simp; omega) e)).drew
theorem below3 (W : World) (a b c : Obj) : Below W.heap.size W (((W.alloc a).alloc b).alloc c).drew :=
  (((((Below.refl W.heap.size W).alloc (Nat.le_refl _) a).alloc (by simp) b).alloc (by simp; omega) c)).drew

set_option maxRecDepth 100000 in
set_option maxHeartbeats 8000000 in
theorem zzappend_any (B : Nat) (slot pC pN aC aN : Nat) (av ld : ByteArray) (hl : Bool) (seen lC lN lS start : Nat) (mem : ByteArray) (hf : Fits ⟨slot, pC, pN, aC, aN, av, ld, hl, seen, lC, lN, lS, start, mem⟩) (hs : Rec.small ⟨slot, pC, pN, aC, aN, av, ld, hl, seen, lC, lN, lS, start, mem⟩) (v : Value) (xs : List UInt8) (w : World) (hown : Own B w v xs) (hBw : B ≤ w.heap.size) (hlim : xs.length ≤ 1048576) :
    Calls Try.prog 7 #[v, .agg (cells14 slot pC pN aC aN av ld hl seen lC lN lS start mem)] w
      fun e w' => ∃ v', e = .returned v' ∧ Own B w' v' (xs ++ body ⟨slot, pC, pN, aC, aN, av, ld, hl, seen, lC, lN, lS, start, mem⟩) ∧ Step w v w' v' := by
  have hb0 : Below w.heap.size w (w.alloc (.cells (cells14 slot pC pN aC aN av ld hl seen lC lN lS start mem) 32)) := (Below.refl _ _).alloc (Nat.le_refl _) _
  have i1 : (w.alloc (.cells (cells14 slot pC pN aC aN av ld hl seen lC lN lS start mem) 32)).cell? ⟨w.heap.size, 1, none⟩ = some (.int .u64 pC) := by simp
  have i2 : (w.alloc (.cells (cells14 slot pC pN aC aN av ld hl seen lC lN lS start mem) 32)).cell? ⟨w.heap.size, 2, none⟩ = some (.int .u32 pN) := by simp
  have i3 : (w.alloc (.cells (cells14 slot pC pN aC aN av ld hl seen lC lN lS start mem) 32)).cell? ⟨w.heap.size, 3, none⟩ = some (.int .u64 aC) := by simp
  have i4 : (w.alloc (.cells (cells14 slot pC pN aC aN av ld hl seen lC lN lS start mem) 32)).cell? ⟨w.heap.size, 4, none⟩ = some (.int .u32 aN) := by simp
  have i5 : (w.alloc (.cells (cells14 slot pC pN aC aN av ld hl seen lC lN lS start mem) 32)).cell? ⟨w.heap.size, 5, none⟩ = some (.string av) := by simp
  have i6 : (w.alloc (.cells (cells14 slot pC pN aC aN av ld hl seen lC lN lS start mem) 32)).cell? ⟨w.heap.size, 6, none⟩ = some (.string ld) := by simp
  have i7 : (w.alloc (.cells (cells14 slot pC pN aC aN av ld hl seen lC lN lS start mem) 32)).cell? ⟨w.heap.size, 7, none⟩ = some (.bool hl) := by simp
  have i8 : (w.alloc (.cells (cells14 slot pC pN aC aN av ld hl seen lC lN lS start mem) 32)).cell? ⟨w.heap.size, 8, none⟩ = some (.int .u64 seen) := by simp
  unfold cells14 at *
  go_enter Try.func7, Try.ntmps7
  go_upto_region 1 with fail
  go_cut [5] (fun v5 wx => ∃ g, v5 = .pointer (some ⟨g, 0, none⟩) ∧ At8 wx g pC pN aC aN av ld hl seen ∧ Below (w.alloc (.cells (cells14 slot pC pN aC aN av ld hl seen lC lN lS start mem) 32)).heap.size (w.alloc (.cells (cells14 slot pC pN aC aN av ld hl seen lC lN lS start mem) 32)) wx)
  case first =>
    go_region_held3 (fun w' => w'.cell? ⟨w.heap.size, 1, none⟩ = some (.int .u64 pC) ∧ w'.cell? ⟨w.heap.size, 2, none⟩ = some (.int .u32 pN) ∧ w'.cell? ⟨w.heap.size, 3, none⟩ = some (.int .u64 aC) ∧ w'.cell? ⟨w.heap.size, 4, none⟩ = some (.int .u32 aN) ∧ w'.cell? ⟨w.heap.size, 5, none⟩ = some (.string av) ∧ w'.cell? ⟨w.heap.size, 6, none⟩ = some (.string ld) ∧ w'.cell? ⟨w.heap.size, 7, none⟩ = some (.bool hl) ∧ w'.cell? ⟨w.heap.size, 8, none⟩ = some (.int .u64 seen)) ((repeat' apply And.intro) <;> (repeat (first | with_reducible assumption | with_reducible refine keepdrew ?_ | with_reducible refine keepalloc ?_)))
      (first | (go_at_call 13; refine (genOf_any _ _ _).mono ?_; rintro e w' ⟨rfl, rfl⟩))
    all_goals go_wp2
    all_goals go_meet
    · exact ⟨_, rfl, (At8.new _ (by simp) _ _ _ _ _ _ _ _).drew, below5 _ _ _ _ _ _⟩
    · exact ⟨_, rfl, (((At8.new _ (by simp) _ _ _ _ _ _ _ _).alloc _).alloc _).drew, below5 _ _ _ _ _ _⟩
    · exact ⟨_, rfl, (((((At8.new _ (by simp) _ _ _ _ _ _ _ _).alloc _).alloc _).alloc _).alloc _).drew, below5 _ _ _ _ _ _⟩
  case rest =>
    obtain ⟨g, rfl, hat, hb⟩ := hcut
    rename World => wd
    clear i1 i2 i3 i4 i5 i6 i7 i8
    have j0 : wd.cell? ⟨w.heap.size, 0, none⟩ = some (.int .u64 slot) := keepcell hb (by simp)
    have j9 : wd.cell? ⟨w.heap.size, 9, none⟩ = some (.int .u64 lC) := keepcell hb (by simp)
    have j10 : wd.cell? ⟨w.heap.size, 10, none⟩ = some (.int .u32 lN) := keepcell hb (by simp)
    have j11 : wd.cell? ⟨w.heap.size, 11, none⟩ = some (.int .u64 lS) := keepcell hb (by simp)
    have j12 : wd.cell? ⟨w.heap.size, 12, none⟩ = some (.int .u64 start) := keepcell hb (by simp)
    have j13 : wd.cell? ⟨w.heap.size, 13, none⟩ = some (.string mem) := keepcell hb (by simp)
    have hbw : Below w.heap.size w wd := hb0.trans (hb.mono hb0.size)
    have hne := World.new_ne wd _ j9
    clear hb hb0
    go_upto_region 2 with fail
    go_cut [6] (fun v6 wx => ∃ g, v6 = .pointer (some ⟨g, 0, none⟩) ∧ At3 wx g lC lN lS ∧ Below wd.heap.size wd wx)
    case first =>
      go_region_held3 (fun w' => w'.cell? ⟨w.heap.size, 9, none⟩ = some (.int .u64 lC) ∧ w'.cell? ⟨w.heap.size, 10, none⟩ = some (.int .u32 lN) ∧ w'.cell? ⟨w.heap.size, 11, none⟩ = some (.int .u64 lS)) ((repeat' apply And.intro) <;> (repeat (first | with_reducible assumption | with_reducible refine keepdrew ?_ | with_reducible refine keepalloc ?_)))
        (first | (go_at_call 13; refine (genOf_any _ _ _).mono ?_; rintro e w' ⟨rfl, rfl⟩))
      all_goals go_wp2
      all_goals go_meet
      · exact ⟨_, rfl, (At3.new _ (by simp) _ _ _).drew, below3 _ _ _ _⟩
      · exact ⟨_, rfl, (((At3.new _ (by simp) _ _ _).alloc _).alloc _).drew, below3 _ _ _ _⟩
    case rest =>
      obtain ⟨g2, rfl, hat3, hb2⟩ := hcut
      rename World => we
      have k0 := keepcell hb2 j0
      have k12 := keepcell hb2 j12
      have k13 := keepcell hb2 j13
      obtain ⟨q0, q1, q2, q3, q4, q5, q6, q7⟩ := hat.below hb2
      obtain ⟨p0, p1, p2⟩ := hat3
      have hbe : Below w.heap.size w we := hbw.trans (hb2.mono hbw.size)
      have hown2 := hown.below hbe
      have hB2 : B ≤ we.heap.size := Nat.le_trans hBw hbe.size
      clear hat j0 j9 j10 j11 j12 j13 hb2
      go_wp2_with fail
      refine (zzrec_any B slot pC pN aC aN av ld hl seen lC lN lS start mem hf hs v xs we hown2 hB2 hlim).mono ?_
      rintro e w1 ⟨v1, rfl, hx1, st1⟩
      go_wp2
      go_ret
      exact ⟨_, rfl, hx1, ((Step.refl w v).below hbe).trans st1⟩
end Go.Proofs.Qxb6613904a
