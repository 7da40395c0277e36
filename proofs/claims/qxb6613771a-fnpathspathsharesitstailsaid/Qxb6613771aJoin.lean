/-
  FnPathsPathSharesItsTail: whatever the input, true.
-/
import Derived.Test.Qxb6613771aNoneA
import Derived.Test.Qxb6613771aNoneB
import Derived.Test.Qxb6613771aNoneC
import Derived.Test.Qxb6613771aSelf
namespace Go.Proofs.Qxb6613771a
open Go.RowKit
set_option linter.unusedVariables false

section
variable (a0 : Option Addr) (n c0 : Nat) (a1 : Option Addr) (l1 c1 : Nat) (a2 : Option Addr) (l2 c2 : Nat) (d f : Int) (w : World)
set_option maxRecDepth 100000 in
set_option maxHeartbeats 4000000 in
theorem tooLong (hb : ¬ (n ≤ 4096 ∧ l1 ≤ 4096 ∧ l2 ≤ 4096)) :
    Calls Try.prog 4 #[.slice a0 n c0, .slice a1 l1 c1, .slice a2 l2 c2, .int .i64 d, .int .i64 f] w fun e w' => e = .returned (.bool true) ∧ Below w.heap.size w w' := by
  go_enter Try.func4, Try.ntmps4
  go_upto_if 35 with (first | (go_at_call 6; refine (bytes6_any a0 n c0 a1 l1 c1 a2 l2 c2 d f w).mono ?_; rintro e w' ⟨⟨b, rfl⟩, rfl⟩))
  cases b with
  | false =>
    go_wp2_with fail
    go_ret
    exact ⟨rfl, Below.refl _ _⟩
  | true =>
    by_cases h1 : n ≤ 4096
    · by_cases h2 : l1 ≤ 4096
      · have h3 : 4096 < l2 := by omega
        clear hb
        go_wp2_with fail
        go_ret
        exact ⟨rfl, Below.refl _ _⟩
      · have h3 : 4096 < l1 := by omega
        clear hb h2
        go_wp2_with fail
        go_ret
        exact ⟨rfl, Below.refl _ _⟩
    · have h3 : 4096 < n := by omega
      clear hb h1
      go_wp2_with fail
      go_ret
      exact ⟨rfl, Below.refl _ _⟩

theorem tail_any (P : Nat → Int) (F1 : Nat → Nat) (F2 : Nat → Int) (h0 : Nums w a0 n (fun i => .int .i64 (P i))) (h1 : Nums w a1 l1 (fun i => .float .f64 (F1 i))) (h2 : Nums w a2 l2 (fun i => .int .i64 (F2 i))) :
    Calls Try.prog 4 #[.slice a0 n c0, .slice a1 l1 c1, .slice a2 l2 c2, .int .i64 d, .int .i64 f] w fun e w' => e = .returned (.bool true) ∧ Below w.heap.size w w' := by
  by_cases hb : n ≤ 4096 ∧ l1 ≤ 4096 ∧ l2 ≤ 4096
  · obtain ⟨hn, hl1, hl2⟩ := hb
    by_cases hd : d < 0
    · by_cases hf : f < 0
      · exact none1 a0 n c0 P a1 l1 c1 F1 a2 l2 c2 F2 w hn hl1 hl2 h0 h1 h2 d f hd hf
      · by_cases hf2 : (n : Int) ≤ f
        · exact none2 a0 n c0 P a1 l1 c1 F1 a2 l2 c2 F2 w hn hl1 hl2 h0 h1 h2 d f hd hf2
        · obtain ⟨F, rfl⟩ : ∃ F : Nat, f = F := ⟨f.toNat, by omega⟩
          exact none3 a0 n c0 P a1 l1 c1 F1 a2 l2 c2 F2 w hn hl1 hl2 h0 h1 h2 d hd F (by omega) (by omega) (by omega)
    · by_cases hd2 : (n : Int) ≤ d
      · by_cases hf : f < 0
        · exact none4 a0 n c0 P a1 l1 c1 F1 a2 l2 c2 F2 w hn hl1 hl2 h0 h1 h2 d f hd2 hf
        · by_cases hf2 : (n : Int) ≤ f
          · exact none5 a0 n c0 P a1 l1 c1 F1 a2 l2 c2 F2 w hn hl1 hl2 h0 h1 h2 d f hd2 hf2
          · obtain ⟨F, rfl⟩ : ∃ F : Nat, f = F := ⟨f.toNat, by omega⟩
            exact none6 a0 n c0 P a1 l1 c1 F1 a2 l2 c2 F2 w hn hl1 hl2 h0 h1 h2 d hd2 F (by omega) (by omega) (by omega)
      · obtain ⟨D, rfl⟩ : ∃ D : Nat, d = D := ⟨d.toNat, by omega⟩
        have hDn : D < n := by omega
        by_cases hf : f < 0
        · exact none7 a0 n c0 P a1 l1 c1 F1 a2 l2 c2 F2 w hn hl1 hl2 h0 h1 h2 D hDn (by omega) (by omega) f hf
        · by_cases hf2 : (n : Int) ≤ f
          · exact none8 a0 n c0 P a1 l1 c1 F1 a2 l2 c2 F2 w hn hl1 hl2 h0 h1 h2 D hDn (by omega) (by omega) f hf2
          · obtain ⟨F, rfl⟩ : ∃ F : Nat, f = F := ⟨f.toNat, by omega⟩
            have hFn : F < n := by omega
            by_cases hch : ∃ l, IsCh n D P l F
            · obtain ⟨l, hl⟩ := hch
              cases l with
              | nil =>
                have e : F = D := hl
                subst e
                exact someS a0 n c0 P a1 l1 c1 F1 a2 l2 c2 F2 w hn hl1 hl2 h0 h1 h2 F hDn (by omega) (by omega)
              | cons j t =>
                have e : j = F := hl.1
                subst e
                exact someC a0 n c0 P a1 l1 c1 F1 a2 l2 c2 F2 w hn hl1 hl2 h0 h1 h2 D hDn (by omega) (by omega) j hFn (by omega) (by omega) t hl
            · exact none9 a0 n c0 P a1 l1 c1 F1 a2 l2 c2 F2 w hn hl1 hl2 h0 h1 h2 D hDn (by omega) (by omega) F hFn (by omega) (by omega) (fun l hl => hch ⟨l, hl⟩)
  · exact tooLong a0 n c0 a1 l1 c1 a2 l2 c2 d f w hb
end
end Go.Proofs.Qxb6613771a
