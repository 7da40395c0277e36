/-
  FnPathsPathSharesItsTail where there is no path (B).
-/
import Derived.Test.Qxb6613771aLoad
namespace Go.Proofs.Qxb6613771a
open Go.RowKit
set_option linter.unusedVariables false

set_option maxRecDepth 100000 in
set_option maxHeartbeats 4000000 in
theorem none4 (a0 : Option Addr) (n c0 : Nat) (P : Nat → Int) (a1 : Option Addr) (l1 c1 : Nat) (F1 : Nat → Nat) (a2 : Option Addr) (l2 c2 : Nat) (F2 : Nat → Int) (w : World)
    (hn : n ≤ 4096) (hl1 : l1 ≤ 4096) (hl2 : l2 ≤ 4096) (h0 : Nums w a0 n (fun i => .int .i64 (P i))) (h1 : Nums w a1 l1 (fun i => .float .f64 (F1 i))) (h2 : Nums w a2 l2 (fun i => .int .i64 (F2 i))) (d f : Int) (hd : (n : Int) ≤ d) (hf : f < 0) :
    Calls Try.prog 4 #[.slice a0 n c0, .slice a1 l1 c1, .slice a2 l2 c2, .int .i64 d, .int .i64 f] w fun e w' => e = .returned (.bool true) ∧ Below w.heap.size w w' := by
  go_enter Try.func4, Try.ntmps4
  go_upto_if 35 with (first | (go_at_call 6; refine (bytes6_any a0 n c0 a1 l1 c1 a2 l2 c2 d f w).mono ?_; rintro e w' ⟨⟨b, rfl⟩, rfl⟩))
  cases b with
  | false =>
    go_wp2_with fail
    go_ret
    exact ⟨rfl, Below.refl _ _⟩
  | true =>
    go_upto_region 13 with (first | (go_at_call 7; refine (build_any a0 n c0 P a1 l1 c1 F1 a2 l2 c2 F2 d w hn hl1 hl2 h0 h1 h2).mono ?_; rintro e w1 ⟨pb, nb, lb, r, LB, rfl, hB, hb1⟩))
    have hask := ask_out hB (by omega) (Nat.le_refl n)
    go_wp2_with (first
      | (go_at_call 8; refine hask.mono ?_; rintro e w2 ⟨rfl, hb2⟩)
      | (refine wpList_store38 w2 (by rfl) (.tmp 18) (.tmp 90) (by rfl) 0 0 0 none none (by rfl) (by rfl) ?_)
      | (go_at_call 9; refine (walkOut a0 n c0 d f _ hn (by omega)).mono ?_; rintro e w3 ⟨rfl, rfl⟩)
      | (go_at_call 10; refine (links_none _).mono ?_; rintro e w4 ⟨a4, rfl, hb4⟩))
    go_ret
    have hb3' : Below w.heap.size w w2 := hb1.trans (hb2.mono hb1.size)
    have hb5 := hb3'.alloc hb3'.size (.cells (pathC 0 0 0 none none) 38)
    exact ⟨rfl, hb5.trans (hb4.mono hb5.size)⟩

set_option maxRecDepth 100000 in
set_option maxHeartbeats 4000000 in
theorem none5 (a0 : Option Addr) (n c0 : Nat) (P : Nat → Int) (a1 : Option Addr) (l1 c1 : Nat) (F1 : Nat → Nat) (a2 : Option Addr) (l2 c2 : Nat) (F2 : Nat → Int) (w : World)
    (hn : n ≤ 4096) (hl1 : l1 ≤ 4096) (hl2 : l2 ≤ 4096) (h0 : Nums w a0 n (fun i => .int .i64 (P i))) (h1 : Nums w a1 l1 (fun i => .float .f64 (F1 i))) (h2 : Nums w a2 l2 (fun i => .int .i64 (F2 i))) (d f : Int) (hd : (n : Int) ≤ d) (hf : (n : Int) ≤ f) :
    Calls Try.prog 4 #[.slice a0 n c0, .slice a1 l1 c1, .slice a2 l2 c2, .int .i64 d, .int .i64 f] w fun e w' => e = .returned (.bool true) ∧ Below w.heap.size w w' := by
  go_enter Try.func4, Try.ntmps4
  go_upto_if 35 with (first | (go_at_call 6; refine (bytes6_any a0 n c0 a1 l1 c1 a2 l2 c2 d f w).mono ?_; rintro e w' ⟨⟨b, rfl⟩, rfl⟩))
  cases b with
  | false =>
    go_wp2_with fail
    go_ret
    exact ⟨rfl, Below.refl _ _⟩
  | true =>
    go_upto_region 13 with (first | (go_at_call 7; refine (build_any a0 n c0 P a1 l1 c1 F1 a2 l2 c2 F2 d w hn hl1 hl2 h0 h1 h2).mono ?_; rintro e w1 ⟨pb, nb, lb, r, LB, rfl, hB, hb1⟩))
    have hask := ask_out hB (by omega) (Nat.le_refl n)
    go_wp2_with (first
      | (go_at_call 8; refine hask.mono ?_; rintro e w2 ⟨rfl, hb2⟩)
      | (refine wpList_store38 w2 (by rfl) (.tmp 18) (.tmp 90) (by rfl) 0 0 0 none none (by rfl) (by rfl) ?_)
      | (go_at_call 9; refine (walkOut a0 n c0 d f _ hn (by omega)).mono ?_; rintro e w3 ⟨rfl, rfl⟩)
      | (go_at_call 10; refine (links_none _).mono ?_; rintro e w4 ⟨a4, rfl, hb4⟩))
    go_ret
    have hb3' : Below w.heap.size w w2 := hb1.trans (hb2.mono hb1.size)
    have hb5 := hb3'.alloc hb3'.size (.cells (pathC 0 0 0 none none) 38)
    exact ⟨rfl, hb5.trans (hb4.mono hb5.size)⟩

set_option maxRecDepth 100000 in
set_option maxHeartbeats 4000000 in
theorem none6 (a0 : Option Addr) (n c0 : Nat) (P : Nat → Int) (a1 : Option Addr) (l1 c1 : Nat) (F1 : Nat → Nat) (a2 : Option Addr) (l2 c2 : Nat) (F2 : Nat → Int) (w : World)
    (hn : n ≤ 4096) (hl1 : l1 ≤ 4096) (hl2 : l2 ≤ 4096) (h0 : Nums w a0 n (fun i => .int .i64 (P i))) (h1 : Nums w a1 l1 (fun i => .float .f64 (F1 i))) (h2 : Nums w a2 l2 (fun i => .int .i64 (F2 i))) (d : Int) (hd : (n : Int) ≤ d) (F : Nat) (hFn : F < n) (hF0 : (0 : Int) ≤ F) (hF1 : (F : Int) < n) :
    Calls Try.prog 4 #[.slice a0 n c0, .slice a1 l1 c1, .slice a2 l2 c2, .int .i64 d, .int .i64 F] w fun e w' => e = .returned (.bool true) ∧ Below w.heap.size w w' := by
  go_enter Try.func4, Try.ntmps4
  go_upto_if 35 with (first | (go_at_call 6; refine (bytes6_any a0 n c0 a1 l1 c1 a2 l2 c2 d F w).mono ?_; rintro e w' ⟨⟨b, rfl⟩, rfl⟩))
  cases b with
  | false =>
    go_wp2_with fail
    go_ret
    exact ⟨rfl, Below.refl _ _⟩
  | true =>
    go_upto_region 13 with (first | (go_at_call 7; refine (build_any a0 n c0 P a1 l1 c1 F1 a2 l2 c2 F2 d w hn hl1 hl2 h0 h1 h2).mono ?_; rintro e w1 ⟨pb, nb, lb, r, LB, rfl, hB, hb1⟩; have hcF := hB.no.row.cell hFn))
    have hask := ask_out hB (by omega) (Nat.le_of_lt hFn)
    go_wp2_with (first
      | (go_at_call 8; refine hask.mono ?_; rintro e w2 ⟨rfl, hb2⟩)
      | (refine wpList_store38 w2 (by rfl) (.tmp 18) (.tmp 90) (by rfl) 0 0 0 none none (by rfl) (by rfl) ?_)
      | (go_at_call 9; refine (walkOut a0 n c0 d F _ hn (by omega)).mono ?_; rintro e w3 ⟨rfl, rfl⟩)
      | (go_at_call 10; refine (links_none _).mono ?_; rintro e w4 ⟨a4, rfl, hb4⟩))
    go_ret
    have hb3' : Below w.heap.size w w2 := hb1.trans (hb2.mono hb1.size)
    have hb5 := hb3'.alloc hb3'.size (.cells (pathC 0 0 0 none none) 38)
    exact ⟨rfl, hb5.trans (hb4.mono hb5.size)⟩
end Go.Proofs.Qxb6613771a
