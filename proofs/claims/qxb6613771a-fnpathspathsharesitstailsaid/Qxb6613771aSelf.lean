/-
  FnPathsPathSharesItsTail where the path is the self path.
-/
import Derived.Test.Qxb6613771aSome
namespace Go.Proofs.Qxb6613771a
open Go.RowKit
set_option linter.unusedVariables false

theorem order5000 : FloatKind.f64.format.order 4662219572839972864 4662219572839972864 = some .eq := by kernel_rfl

set_option maxRecDepth 100000 in
set_option maxHeartbeats 4000000 in
theorem someS (a0 : Option Addr) (n c0 : Nat) (P : Nat → Int) (a1 : Option Addr) (l1 c1 : Nat) (F1 : Nat → Nat) (a2 : Option Addr) (l2 c2 : Nat) (F2 : Nat → Int) (w : World)
    (hn : n ≤ 4096) (hl1 : l1 ≤ 4096) (hl2 : l2 ≤ 4096) (h0 : Nums w a0 n (fun i => .int .i64 (P i))) (h1 : Nums w a1 l1 (fun i => .float .f64 (F1 i))) (h2 : Nums w a2 l2 (fun i => .int .i64 (F2 i)))
    (D : Nat) (hDn : D < n) (hD0 : (0 : Int) ≤ D) (hD1 : (D : Int) < n) :
    Calls Try.prog 4 #[.slice a0 n c0, .slice a1 l1 c1, .slice a2 l2 c2, .int .i64 D, .int .i64 D] w fun e w' => e = .returned (.bool true) ∧ Below w.heap.size w w' := by
  have HL : Hid (IsCh n D P [] D) := (rfl : D = D)
  go_enter Try.func4, Try.ntmps4
  go_upto_if 35 with (first | (go_at_call 6; refine (bytes6_any a0 n c0 a1 l1 c1 a2 l2 c2 D D w).mono ?_; rintro e w' ⟨⟨b, rfl⟩, rfl⟩))
  cases b with
  | false =>
    go_wp2_with fail
    go_ret
    exact ⟨rfl, Below.refl _ _⟩
  | true =>
    go_upto_region 13 with (first | (go_at_call 7; refine (build_any a0 n c0 P a1 l1 c1 F1 a2 l2 c2 F2 D w hn hl1 hl2 h0 h1 h2).mono ?_; rintro e w1 ⟨pb, nb, lb, r, LB, rfl, hB, hb1⟩; have hcD := hB.no.row.cell hDn))
    obtain ⟨g, hst, hask'⟩ := ask_some hB hn hDn hDn HL.out
    have hask : Calls Try.prog 8 #[np pb, np (r + 1 + D), np (r + 1 + D)] w1 fun e w' => e = .returned (.tuple #[.agg (pathC 0 4662219572839972864 0 (some ⟨g, 0, none⟩) none), .bool true]) ∧ Below w1.heap.size w1 w' := hask'
    clear hcD hask'
    go_upto_region 14 with (first
      | (go_at_call 8; refine hask.mono ?_; rintro e w2 ⟨rfl, hb2⟩)
      | (refine wpList_store38 w2 (by rfl) (.tmp 18) (.tmp 90) (by rfl) 0 4662219572839972864 0 (some ⟨g, 0, none⟩) none (by rfl) (by rfl) ?_))
    have hba : Below w2.heap.size w2 (w2.alloc (.cells (pathC 0 4662219572839972864 0 (some ⟨g, 0, none⟩) none) 38)) := (Below.refl _ _).alloc (Nat.le_refl _) _
    have hb13 : Below w1.heap.size w1 (w2.alloc (.cells (pathC 0 4662219572839972864 0 (some ⟨g, 0, none⟩) none) 38)) := hb2.trans (hba.mono hb2.size)
    have hh3 := heap_alloc_new w2 (.cells (pathC 0 4662219572839972864 0 (some ⟨g, 0, none⟩) none) 38)
    obtain ⟨w3, hw3⟩ : ∃ x, x = w2.alloc (.cells (pathC 0 4662219572839972864 0 (some ⟨g, 0, none⟩) none) 38) := ⟨_, rfl⟩
    obtain ⟨pa, hpa⟩ : ∃ x, x = w2.heap.size := ⟨_, rfl⟩
    rw [← hw3] at hb13 hh3
    rw [← hpa] at hh3
    simp only [← hw3, ← hpa]
    have hpa3 : pa < w3.heap.size := (Array.getElem?_eq_some_iff.1 hh3).1
    clear hw3 hpa hba hask hb2
    have hst3 := hst.below hb13
    have hbw3 : Below w.heap.size w w3 := hb1.trans (hb13.mono hb1.size)
    clear hB hst hb13 hb1
    go_upto_region 15 with (go_at_call 9; refine (walkIn a0 n c0 P D D w3 hn hDn hDn (h0.below hbw3)).mono ?_; rintro e w4 ⟨v4, b4, rfl, hb4, ht4, hf4⟩; have hbt := reached HL.out hf4; have HX4 : Hid _ := ht4 hbt; subst hbt; clear ht4 hf4)
    obtain ⟨l', hl', hown4⟩ := HX4.out
    have e := hl'.uniq HL.out
    subst e
    clear HX4 hl'
    obtain ⟨a20, c20, rfl, hn20⟩ := nums_ints hown4
    have hh4 := (hb4.block pa hpa3).trans hh3
    have hst4 := hst3.below hb4
    have hbw4 : Below w.heap.size w w4 := hbw3.trans (hb4.mono hbw3.size)
    have hpa4 : pa < w4.heap.size := (Array.getElem?_eq_some_iff.1 hh4).1
    clear hown4 hh3 hst3 hbw3 hb4 hpa3 hn20
    have hlinks' := links_any LB [] g 0 4662219572839972864 w4 (by simp) hst4
    have hlinks : Calls Try.prog 10 #[.agg (pathC 0 4662219572839972864 0 (some ⟨g, 0, none⟩) none)] w4 fun e w' => ∃ v, e = .returned v ∧ w'.ownsRow w4.heap.size 44 1 v ([] : List Nat).length (lks LB []) ∧ Below w4.heap.size w4 w' := hlinks'
    obtain ⟨hp0, hp1, hp2, hp3, hp4⟩ := path_cells hh4
    clear hlinks' hst4
    go_upto_region 20 with (go_at_call 10; refine hlinks.mono ?_; rintro e w5 ⟨v5, rfl, hown5, hb5⟩)
    obtain ⟨a22, c22, rfl, hn22⟩ := nums_lks hown5
    have hh5 := (hb5.block pa hpa4).trans hh4
    have hbw5 : Below w.heap.size w w5 := hbw4.trans (hb5.mono hbw4.size)
    have hpa5 : pa < w5.heap.size := (Array.getElem?_eq_some_iff.1 hh5).1
    clear hp0 hp1 hp2 hp3 hp4 hlinks hown5 hh4 hbw4 hb5 hpa4 hn22
    obtain ⟨hp0, hp1, hp2, hp3, hp4⟩ := path_cells hh5
    go_upto_block 0 with fail
    refine loopA _ rfl _ n 0 lb LB (fun _ => 0) a20 a22 c20 c22 w5 hn (by omega) (fun k hk => absurd hk (by omega)) (fun h => absurd h (by omega)) (fun h => absurd h (by omega)) (fun k hk => absurd hk (by omega)) _ _ _ _ _ _ _ _ _ _ _ _ _ _ _ _ _ _ _ _ _ _ _ _ _ _ _ _ _ _ _ _ _ _ _ _ _ _ _ _ _ _ _ _ _ _ _ _ _ _ _ _ _ _ _ _ _ _ _ _ _ _ _ _ _ _ _ _ _ _ _ _ _ _ _ _ _ _ _ _ _ _ _ _ _ _ _ _ _ _ _ _ _ _ _ _ _ _ _ _ _ _ _ _ _ _ _ _ _ _ _ _ _ _ _ _ _ _ _ _ _ _ _ _ _ _ _ _ _ _ _ _ _ _ _ _ _ _ _ _ _ _ _ _ _ _ _ _ _ _ _ _ _ _ _ _ _ _ _ _ _ _ _ _ _ _ _ _ _ _ _ _ _ _ _ _ _ _ _ _ _ _ _ _ _ _ _ _ _ _ _ _ _ _ _ _ _ _ _ _ _ _ _ _ _ _ _ _ _ _ _ _ _ _ _ _ _ _ _ _ _ _ _ _ _ ?_
    intro y10 y23 y137 y138 y139 y140 y141 y142 y143 y144 y145 y146 y147 y148 y149 y150 y151 y152 y153 y154 w6 hb6
    have hh6 := (hb6.block pa hpa5).trans hh5
    have hbw6 : Below w.heap.size w w6 := hbw5.trans (hb6.mono hbw5.size)
    clear hp0 hp1 hp2 hp3 hp4 hh5 hbw5 hb6 hpa5
    obtain ⟨hp0, hp1, hp2, hp3, hp4⟩ := path_cells hh6
    have ho := order5000
    go_wp2_with fail
    go_ret
    exact ⟨rfl, hbw6⟩
end Go.Proofs.Qxb6613771a
