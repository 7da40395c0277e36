/-
  FnPathsPathSharesItsTail where there is no path (C).
-/
import Derived.Test.Qxb6613771aLoad
namespace Go.Proofs.Qxb6613771a
open Go.RowKit
set_option linter.unusedVariables false

theorem not_reached {n D F : Nat} {P : Nat → Int} {b : Bool} {R : List Nat → Prop} (hno : ∀ l, ¬ IsCh n D P l F) (h : b = true → ∃ l, IsCh n D P l F ∧ R l) : b = false := by
  cases b with
  | false => rfl
  | true =>
    obtain ⟨l, hl, _⟩ := h rfl
    exact absurd hl (hno l)

set_option maxRecDepth 100000 in
set_option maxHeartbeats 4000000 in
theorem none7 (a0 : Option Addr) (n c0 : Nat) (P : Nat → Int) (a1 : Option Addr) (l1 c1 : Nat) (F1 : Nat → Nat) (a2 : Option Addr) (l2 c2 : Nat) (F2 : Nat → Int) (w : World)
    (hn : n ≤ 4096) (hl1 : l1 ≤ 4096) (hl2 : l2 ≤ 4096) (h0 : Nums w a0 n (fun i => .int .i64 (P i))) (h1 : Nums w a1 l1 (fun i => .float .f64 (F1 i))) (h2 : Nums w a2 l2 (fun i => .int .i64 (F2 i))) (D : Nat) (hDn : D < n) (hD0 : (0 : Int) ≤ D) (hD1 : (D : Int) < n) (f : Int) (hf : f < 0) :
    Calls Try.prog 4 #[.slice a0 n c0, .slice a1 l1 c1, .slice a2 l2 c2, .int .i64 D, .int .i64 f] w fun e w' => e = .returned (.bool true) ∧ Below w.heap.size w w' := by
  go_enter Try.func4, Try.ntmps4
  go_upto_if 35 with (first | (go_at_call 6; refine (bytes6_any a0 n c0 a1 l1 c1 a2 l2 c2 D f w).mono ?_; rintro e w' ⟨⟨b, rfl⟩, rfl⟩))
  cases b with
  | false =>
    go_wp2_with fail
    go_ret
    exact ⟨rfl, Below.refl _ _⟩
  | true =>
    go_upto_region 13 with (first | (go_at_call 7; refine (build_any a0 n c0 P a1 l1 c1 F1 a2 l2 c2 F2 D w hn hl1 hl2 h0 h1 h2).mono ?_; rintro e w1 ⟨pb, nb, lb, r, LB, rfl, hB, hb1⟩; have hcD := hB.no.row.cell hDn))
    have hask := ask_from hB hDn
    go_wp2_with (first
      | (go_at_call 8; refine hask.mono ?_; rintro e w2 ⟨rfl, hb2⟩)
      | (refine wpList_store38 w2 (by rfl) (.tmp 18) (.tmp 90) (by rfl) 0 0 0 none none (by rfl) (by rfl) ?_)
      | (go_at_call 9; refine (walkOut a0 n c0 D f _ hn (by omega)).mono ?_; rintro e w3 ⟨rfl, rfl⟩)
      | (go_at_call 10; refine (links_none _).mono ?_; rintro e w4 ⟨a4, rfl, hb4⟩))
    go_ret
    have hb3' : Below w.heap.size w w2 := hb1.trans (hb2.mono hb1.size)
    have hb5 := hb3'.alloc hb3'.size (.cells (pathC 0 0 0 none none) 38)
    exact ⟨rfl, hb5.trans (hb4.mono hb5.size)⟩

set_option maxRecDepth 100000 in
set_option maxHeartbeats 4000000 in
theorem none8 (a0 : Option Addr) (n c0 : Nat) (P : Nat → Int) (a1 : Option Addr) (l1 c1 : Nat) (F1 : Nat → Nat) (a2 : Option Addr) (l2 c2 : Nat) (F2 : Nat → Int) (w : World)
    (hn : n ≤ 4096) (hl1 : l1 ≤ 4096) (hl2 : l2 ≤ 4096) (h0 : Nums w a0 n (fun i => .int .i64 (P i))) (h1 : Nums w a1 l1 (fun i => .float .f64 (F1 i))) (h2 : Nums w a2 l2 (fun i => .int .i64 (F2 i))) (D : Nat) (hDn : D < n) (hD0 : (0 : Int) ≤ D) (hD1 : (D : Int) < n) (f : Int) (hf : (n : Int) ≤ f) :
    Calls Try.prog 4 #[.slice a0 n c0, .slice a1 l1 c1, .slice a2 l2 c2, .int .i64 D, .int .i64 f] w fun e w' => e = .returned (.bool true) ∧ Below w.heap.size w w' := by
  go_enter Try.func4, Try.ntmps4
  go_upto_if 35 with (first | (go_at_call 6; refine (bytes6_any a0 n c0 a1 l1 c1 a2 l2 c2 D f w).mono ?_; rintro e w' ⟨⟨b, rfl⟩, rfl⟩))
  cases b with
  | false =>
    go_wp2_with fail
    go_ret
    exact ⟨rfl, Below.refl _ _⟩
  | true =>
    go_upto_region 13 with (first | (go_at_call 7; refine (build_any a0 n c0 P a1 l1 c1 F1 a2 l2 c2 F2 D w hn hl1 hl2 h0 h1 h2).mono ?_; rintro e w1 ⟨pb, nb, lb, r, LB, rfl, hB, hb1⟩; have hcD := hB.no.row.cell hDn))
    have hask := ask_from hB hDn
    go_wp2_with (first
      | (go_at_call 8; refine hask.mono ?_; rintro e w2 ⟨rfl, hb2⟩)
      | (refine wpList_store38 w2 (by rfl) (.tmp 18) (.tmp 90) (by rfl) 0 0 0 none none (by rfl) (by rfl) ?_)
      | (go_at_call 9; refine (walkOut a0 n c0 D f _ hn (by omega)).mono ?_; rintro e w3 ⟨rfl, rfl⟩)
      | (go_at_call 10; refine (links_none _).mono ?_; rintro e w4 ⟨a4, rfl, hb4⟩))
    go_ret
    have hb3' : Below w.heap.size w w2 := hb1.trans (hb2.mono hb1.size)
    have hb5 := hb3'.alloc hb3'.size (.cells (pathC 0 0 0 none none) 38)
    exact ⟨rfl, hb5.trans (hb4.mono hb5.size)⟩

set_option maxRecDepth 100000 in
set_option maxHeartbeats 4000000 in
theorem none9 (a0 : Option Addr) (n c0 : Nat) (P : Nat → Int) (a1 : Option Addr) (l1 c1 : Nat) (F1 : Nat → Nat) (a2 : Option Addr) (l2 c2 : Nat) (F2 : Nat → Int) (w : World)
    (hn : n ≤ 4096) (hl1 : l1 ≤ 4096) (hl2 : l2 ≤ 4096) (h0 : Nums w a0 n (fun i => .int .i64 (P i))) (h1 : Nums w a1 l1 (fun i => .float .f64 (F1 i))) (h2 : Nums w a2 l2 (fun i => .int .i64 (F2 i))) (D : Nat) (hDn : D < n) (hD0 : (0 : Int) ≤ D) (hD1 : (D : Int) < n) (F : Nat) (hFn : F < n) (hF0 : (0 : Int) ≤ F) (hF1 : (F : Int) < n) (hno : ∀ l, ¬ IsCh n D P l F) :
    Calls Try.prog 4 #[.slice a0 n c0, .slice a1 l1 c1, .slice a2 l2 c2, .int .i64 D, .int .i64 F] w fun e w' => e = .returned (.bool true) ∧ Below w.heap.size w w' := by
  go_enter Try.func4, Try.ntmps4
  go_upto_if 35 with (first | (go_at_call 6; refine (bytes6_any a0 n c0 a1 l1 c1 a2 l2 c2 D F w).mono ?_; rintro e w' ⟨⟨b, rfl⟩, rfl⟩))
  cases b with
  | false =>
    go_wp2_with fail
    go_ret
    exact ⟨rfl, Below.refl _ _⟩
  | true =>
    go_upto_region 13 with (first | (go_at_call 7; refine (build_any a0 n c0 P a1 l1 c1 F1 a2 l2 c2 F2 D w hn hl1 hl2 h0 h1 h2).mono ?_; rintro e w1 ⟨pb, nb, lb, r, LB, rfl, hB, hb1⟩; have hcD := hB.no.row.cell hDn; have hcF := hB.no.row.cell hFn))
    have hask := ask_none hB hn hDn hFn hno
    go_wp2_with (first
      | (go_at_call 8; refine hask.mono ?_; rintro e w2 ⟨rfl, hb2⟩)
      | (refine wpList_store38 w2 (by rfl) (.tmp 18) (.tmp 90) (by rfl) 0 0 0 none none (by rfl) (by rfl) ?_)
      | (go_at_call 9; refine (walkIn a0 n c0 P D F _ hn hDn hFn (h0.below ((hb1.trans (hb2.mono hb1.size)).alloc (hb1.trans (hb2.mono hb1.size)).size _))).mono ?_; rintro e w3 ⟨v3, b3, rfl, hb3, ht3, _⟩; obtain rfl : b3 = false := not_reached hno ht3; clear ht3; have hh3 := (hb3.block w2.heap.size (by simp)).trans (heap_alloc_new w2 _); obtain ⟨hp0, hp1, hp2, hp3, hp4⟩ := path_cells hh3)
      | (go_at_call 10; refine (links_none _).mono ?_; rintro e w4 ⟨a4, rfl, hb4⟩))
    go_ret
    have hb3' : Below w.heap.size w w2 := hb1.trans (hb2.mono hb1.size)
    have hb5 := hb3'.alloc hb3'.size (.cells (pathC 0 0 0 none none) 38)
    have hb6 := hb5.trans (hb3.mono hb5.size)
    exact ⟨rfl, hb6.trans (hb4.mono hb6.size)⟩
end Go.Proofs.Qxb6613771a
