/-
  (Path).Links: the links along a chain of steps.
-/
import Derived.Test.Qxb6613771aChain
import Derived.Deep.DeepCutAuto
import Derived.Deep.RegionHeld3
namespace Go.Proofs.Qxb6613771a
open Go.RowKit
set_option linter.unusedVariables false

theorem Try.info44 : (Try.prog.info? 44).map (fun i => (i.zero, i.size, i.bytes)) = some (some (.pointer none), 1, 8) := by kernel_rfl

/-- The chain of steps behind block g: the links of l, in order; the last step's link is nil. -/
def Steps (w : World) (LB : Nat → Nat) : List Nat → Nat → Prop
  | [], g => w.cell? ⟨g, 0, none⟩ = some (.pointer none)
  | j :: l, g => ∃ g', w.cell? ⟨g, 0, none⟩ = some (.pointer (some ⟨LB j, 0, none⟩)) ∧ w.cell? ⟨g, 1, none⟩ = some (.pointer (some ⟨g', 0, none⟩)) ∧ Steps w LB l g'
theorem cellk {w w' : World} {a : Addr} {x : Value} (hb : Below w.heap.size w w') (h : w.cell? a = some x) : w'.cell? a = some x := (hb.cell (World.block_lt_of_cell? w a h)).trans h
theorem Steps.below {w w' : World} {LB : Nat → Nat} (hb : Below w.heap.size w w') : ∀ {l : List Nat} {g : Nat}, Steps w LB l g → Steps w' LB l g
  | [], g, h => cellk hb h
  | j :: l, g, ⟨g', h0, h1, h2⟩ => ⟨g', cellk hb h0, cellk hb h1, Steps.below hb h2⟩

theorem cell_new_at (w : World) (cs : Array Value) (t : TypeId) (fr : Nat × Nat) (j : Nat) (v : Value) (h : cs[j]? = some v) : (w.alloc (.cells cs t fr)).cell? ⟨w.heap.size, j, none⟩ = some v := by
  have e : (w.alloc (.cells cs t fr)).heap[w.heap.size]? = some (.cells cs t fr) := by
    show (w.heap.push (.cells cs t fr))[w.heap.size]? = _
    simp
  simp only [World.cell?, e]
  exact h
def lks (LB : Nat → Nat) (l : List Nat) : List Value := l.map fun (j : Nat) => Value.pointer (some ⟨LB j, 0, none⟩)
theorem lks_nil (LB : Nat → Nat) : lks LB [] = [] := rfl
theorem lks_snoc (LB : Nat → Nat) (c : List Nat) (j : Nat) : lks LB c ++ [.pointer (some ⟨LB j, 0, none⟩)] = lks LB (c ++ [j]) := by simp [lks]
theorem one_ptr (a : Option Addr) : ∀ u ∈ [Value.pointer a], u.oneCell' = true := by intro u hu; simp at hu; subst hu; rfl
def lenV : Value → Nat
  | .slice _ n _ => n
  | _ => 0
theorem lenV_owns {w : World} {base e size : Nat} {v : Value} {n : Nat} {xs : List Value} (h : w.ownsRow base e size v n xs) : lenV v = n := by
  obtain ⟨_, ⟨rfl, rfl⟩ | ⟨g, cap, cur, rfl, _⟩⟩ := h <;> rfl

set_option maxRecDepth 100000 in
set_option maxHeartbeats 4000000 in
theorem links_any (LB : Nat → Nat) (l : List Nat) (g : Nat) (cl : Int) (bw : Nat) (w : World) (hl : l.length ≤ 4096) (hs : Steps w LB l g) :
    Calls Try.prog 10 #[.agg #[.int .i64 cl, .float .f64 bw, .int .i64 l.length, .pointer (some ⟨g, 0, none⟩), .pointer none]] w fun e w' => ∃ v, e = .returned v ∧ w'.ownsRow w.heap.size 44 1 v l.length (lks LB l) ∧ Below w.heap.size w w' := by
  obtain ⟨i0, hi, hz0, hz1, hz2⟩ := info_parts Try.info44
  have hx0 : ∀ (p : Option Addr) (w : World), (Instr.index 36 (.agg #[.pointer p, .pointer none]) (.int .i64 0)).run Try.prog w = .ok (.pointer p) w := fun _ _ => by kernel_rfl
  have hx1 : ∀ (p : Option Addr) (w : World), (Instr.index 36 (.agg #[.pointer p, .pointer none]) (.int .i64 1)).run Try.prog w = .ok (.pointer none) w := fun _ _ => by kernel_rfl
  obtain ⟨N, hN⟩ : ∃ N, N = l.length := ⟨_, rfl⟩
  have HN : Hid (N = l.length) := hN
  have hNb : N ≤ 4096 := by omega
  rw [← hN]
  clear hN
  have hby : i0.bytes * N ≤ 281474976710656 := by rw [hz2]; omega
  have hml : N ≤ maxLen := by unfold maxLen; omega
  have hb1 : Below w.heap.size w (w.alloc (.cells #[.int .i64 cl, .float .f64 bw, .int .i64 N, .pointer (some ⟨g, 0, none⟩), .pointer none] 38)) := (Below.refl _ _).alloc (Nat.le_refl _) _
  have hbase : w.heap.size ≤ (w.alloc (.cells #[.int .i64 cl, .float .f64 bw, .int .i64 N, .pointer (some ⟨g, 0, none⟩), .pointer none] 38)).heap.size := hb1.size
  go_enter Try.func10, Try.ntmps10
  go_upto_region 2 with (first | (at_make; refine wpList_make_own _ (by rfl) (.const (.int .i64 0)) (.tmp 7) 29 (by rfl) w.heap.size 44 i0 (.pointer none) 1 Try.underlying29 hi hz0 hz1 .i64 .i64 N N (by rfl) (by rfl) (by rfl) hby hml hbase ?_; intro w3 hown3 hgr3))
  have hc3 : w3.cell? ⟨w.heap.size, 3, none⟩ = some (.pointer (some ⟨g, 0, none⟩)) := hgr3.cell (cell_new_at _ _ _ _ _ _ rfl) (by simp)
  have hc4 : w3.cell? ⟨w.heap.size, 4, none⟩ = some (.pointer none) := hgr3.cell (cell_new_at _ _ _ _ _ _ rfl) (by simp)
  have hb3 : Below w.heap.size w w3 := hb1.grown hgr3 hbase (fun j hj => by simp at hj)
  go_upto_region 3 with fail
  clear hc3 hc4 hgr3 hb1 hbase hby hml
  refine wp_loop_rounds 3 ?_
  rw [rounds_succ]
  go_upto_region 5 with (rw [hx0])
  go_loopw [3, 5] (fun v vp wr => ∃ (k h : Nat) (c r : List Nat), k ≤ N ∧ vp = .pointer (some ⟨h, 0, none⟩) ∧ Hid (l = c ++ r) ∧ Hid (c.length = k) ∧ Steps w LB r h ∧ wr.ownsRow w.heap.size 44 1 v k (lks LB c) ∧ Below w.heap.size w wr) (fun v _ _ => N - lenV v)
  case atStart => exact ⟨0, g, [], l, Nat.zero_le _, rfl, (rfl : l = l), (rfl : ([] : List Nat).length = 0), hs, by rw [lks_nil]; simpa using hown3, hb3⟩
  case round =>
    obtain ⟨k, h, c, r, hk, rfl, HC, HL, hst, hown, hbr⟩ := hrel
    cases r with
    | nil =>
      have hl0 : wr.cell? ⟨h, 0, none⟩ = some (.pointer none) := cellk hbr hst
      go_wp2_with fail
      rw [rounds_succ]
      go_upto_region 5 with (rw [hx1])
      refine wp_loop_rounds 1 ?_
      rw [rounds_succ]
      go_wp2_with fail
      rw [rounds_succ]
      go_wp2_with fail
      go_ret
      have h1 := HN.out
      have h2 := HC.out
      have h3 := HL.out
      have e1 : c = l := by rw [h2]; simp
      have e2 : k = N := by rw [h1, ← e1, h3]
      refine ⟨_, rfl, ?_, hbr⟩
      rw [← e2, ← e1]
      exact hown
    | cons j r =>
      obtain ⟨h', hl0', hl1', hst'⟩ := hst
      have hl0 := cellk hbr hl0'
      have hkN : k < N := by
        have h1 := HN.out
        have h2 := HC.out
        have h3 := HL.out
        rw [h2] at h1
        simp at h1
        omega
      have hm : k + 1 ≤ maxLen := by unfold maxLen; omega
      have hby : (k + 1) * 8 ≤ 140737488355328 := by omega
      have hown2 := hown.alloc (.cells #[.pointer (some ⟨LB j, 0, none⟩)] 44)
      have hbs : w.heap.size ≤ wr.heap.size := hbr.size
      have hbase : w.heap.size ≤ (wr.alloc (.cells #[.pointer (some ⟨LB j, 0, none⟩)] 44)).heap.size := by simp; omega
      go_upto_region 6 with (first | (at_builtin; refine wpList_append_own_at _ (by rfl) (.tmp 27) (.tmp 32) 29 (by rfl) w.heap.size 44 i0 (.pointer none) 1 8 Try.underlying29 hi hz0 hz1 hz2 (by rfl) (by decide) _ k _ (by rfl) hown2 ⟨wr.heap.size, 0, none⟩ 1 1 [.pointer (some ⟨LB j, 0, none⟩)] (by rfl) (by rfl) (cell_one_new _ _ _) (one_ptr _) hm hby hbase ?_; intro v' w1 hown' hgrow _ hat))
      have hb2 : Below w.heap.size w w1 := (hbr.alloc hbs _).grown hgrow hbase (fun j hj => (hown.lt j hj).1)
      have hl1 := cellk hb2 hl1'
      have hlv := lenV_owns hown
      clear hown2 hown hgrow
      go_wp2_with fail
      go_roundw
      case rel =>
        refine ⟨k + 1, h', c ++ [j], r, by omega, rfl, ?_, ?_, hst', ?_, hb2⟩
        · show l = c ++ [j] ++ r
          rw [HC.out]; simp
        · show (c ++ [j]).length = k + 1
          have := HL.out
          simp; omega
        · rw [← lks_snoc]; exact hown'
      case measure =>
        rw [lenV_owns hown']
        rw [hlv]
        omega

set_option maxRecDepth 100000 in
set_option maxHeartbeats 4000000 in
theorem links_none (w : World) :
    Calls Try.prog 10 #[.agg #[.int .i64 0, .float .f64 0, .int .i64 0, .pointer none, .pointer none]] w fun e w' => ∃ a, e = .returned (.slice a 0 0) ∧ Below w.heap.size w w' := by
  obtain ⟨i0, hi, hz0, hz1, hz2⟩ := info_parts Try.info44
  have hx0 : ∀ (w : World), (Instr.index 36 (.agg #[.pointer none, .pointer none]) (.int .i64 0)).run Try.prog w = .ok (.pointer none) w := fun _ => by kernel_rfl
  have hx1 : ∀ (w : World), (Instr.index 36 (.agg #[.pointer none, .pointer none]) (.int .i64 1)).run Try.prog w = .ok (.pointer none) w := fun _ => by kernel_rfl
  have hby : i0.bytes * 0 ≤ 281474976710656 := by omega
  have hml : 0 ≤ maxLen := by unfold maxLen; omega
  have hb1 : Below w.heap.size w (w.alloc (.cells #[.int .i64 0, .float .f64 0, .int .i64 0, .pointer none, .pointer none] 38)) := (Below.refl _ _).alloc (Nat.le_refl _) _
  have hbase : w.heap.size ≤ (w.alloc (.cells #[.int .i64 0, .float .f64 0, .int .i64 0, .pointer none, .pointer none] 38)).heap.size := hb1.size
  go_enter Try.func10, Try.ntmps10
  go_upto_region 2 with (first | (at_make; refine wpList_make_own _ (by rfl) (.const (.int .i64 0)) (.tmp 7) 29 (by rfl) w.heap.size 44 i0 (.pointer none) 1 Try.underlying29 hi hz0 hz1 .i64 .i64 0 0 (by rfl) (by rfl) (by rfl) hby hml hbase ?_; intro w3 hown3 hgr3))
  have hc3 : w3.cell? ⟨w.heap.size, 3, none⟩ = some (.pointer none) := hgr3.cell (cell_new_at _ _ _ _ _ _ rfl) (by simp)
  have hc4 : w3.cell? ⟨w.heap.size, 4, none⟩ = some (.pointer none) := hgr3.cell (cell_new_at _ _ _ _ _ _ rfl) (by simp)
  have hb3 : Below w.heap.size w w3 := hb1.grown hgr3 hbase (fun j hj => by simp at hj)
  go_upto_region 3 with fail
  clear hc3 hc4 hgr3 hb1 hbase hby hml
  refine wp_loop_rounds 3 ?_
  rw [rounds_succ]
  go_upto_region 5 with (rw [hx0])
  refine wp_loop_rounds 1 ?_
  rw [rounds_succ]
  go_wp2_with fail
  rw [rounds_succ]
  go_upto_region 5 with (rw [hx1])
  refine wp_loop_rounds 1 ?_
  rw [rounds_succ]
  go_wp2_with fail
  rw [rounds_succ]
  go_wp2_with fail
  go_ret
  exact ⟨_, rfl, hb3⟩
end Go.Proofs.Qxb6613771a
