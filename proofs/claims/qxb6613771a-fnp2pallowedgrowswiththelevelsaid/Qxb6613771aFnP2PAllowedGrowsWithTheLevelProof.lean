/-
  THE PROOF OF 'Rows.FnP2PAllowedGrowsWithTheLevelSaid': the frame is the seat's shell (proof-skeleton.mjs), the walk is this seat's.
-/
import Derived.Test.Qxb6613771aRows
import Derived.WalkKit
import Derived.ProofKit
import Derived.OpenShut
import Derived.ShutString
namespace Go.Proofs.Qxb6613771a.fnP2PAllowedGrowsWithTheLevel
open Go.ChangeShapes Go.WideShapes Go.ChangeAt Go.RowKit
open Go.ChangeMaps (open_string shut_string)
set_option linter.unusedVariables false      -- a walk need not use every 'w<i>' (that an integer argument fits its kind)

theorem own : ownKnob Try.prog.godebug = none := by kernel_rfl

theorem Grown_trans {a b c : World} (h : Grown a b) (k : Grown b c) : Grown a c :=
  ⟨World.keptBut_trans h.1 k.1, fun x => (k.2.1 x).trans (h.2.1 x), Nat.le_trans h.2.2 k.2.2⟩

theorem allowed_any (c l : Int) (r : Bool) (w : World) :
    Calls Try.prog 5 #[.int .i64 c, .int .i64 l, .bool r] w fun e w' => e = .returned (.bool (decide (c ≤ l))) ∧ Grown w w' := by
  go_enter Try.func5, Try.ntmps5
  go_wp2
  go_ret
  exact ⟨rfl, by repeat (first | exact Grown.refl _ | apply Grown.drew | apply Grown.alloc)⟩

theorem walk_neg (a0 a1 a2 : Int) (a3 : Bool) (w : World) (h : a2 < 0) :
    Calls Try.prog 3 #[.int .i64 a0, .int .i64 a1, .int .i64 a2, .bool a3] w fun e w' => e = .returned (.bool true) ∧ Grown w w' := by
  go_enter Try.func3, Try.ntmps3
  go_wp2
  go_ret
  exact ⟨rfl, Grown.refl _⟩

theorem walk_over1 (a0 a1 a2 : Int) (a3 : Bool) (w : World) (h : ¬ a2 < 0) (h1 : wrap64 (a1 + a2) < a1) :
    Calls Try.prog 3 #[.int .i64 a0, .int .i64 a1, .int .i64 a2, .bool a3] w fun e w' => e = .returned (.bool true) ∧ Grown w w' := by
  go_enter Try.func3, Try.ntmps3
  go_wp2
  go_ret
  exact ⟨rfl, Grown.refl _⟩

theorem walk_over2 (a0 a1 a2 : Int) (a3 : Bool) (w : World) (h : ¬ a2 < 0) (h1 : ¬ wrap64 (a1 + a2) < a1) (h2 : a0 < wrap64 (a0 - a2)) :
    Calls Try.prog 3 #[.int .i64 a0, .int .i64 a1, .int .i64 a2, .bool a3] w fun e w' => e = .returned (.bool true) ∧ Grown w w' := by
  go_enter Try.func3, Try.ntmps3
  go_wp2
  go_ret
  exact ⟨rfl, Grown.refl _⟩

theorem walk_yes (a0 a1 a2 : Int) (a3 : Bool) (w : World) (h : ¬ a2 < 0) (h1 : ¬ wrap64 (a1 + a2) < a1) (h2 : ¬ a0 < wrap64 (a0 - a2)) (h3 : a0 ≤ a1) :
    Calls Try.prog 3 #[.int .i64 a0, .int .i64 a1, .int .i64 a2, .bool a3] w fun e w' => e = .returned (.bool true) ∧ Grown w w' := by
  have h4 : a0 ≤ wrap64 (a1 + a2) := by omega
  have h5 : wrap64 (a0 - a2) ≤ a1 := by omega
  go_enter Try.func3, Try.ntmps3
  go_wp2_with fail
  refine (allowed_any _ _ _ _).mono ?_; rintro e wa ⟨rfl, ga⟩
  go_wp2_with fail
  refine (allowed_any _ _ _ _).mono ?_; rintro e wb ⟨rfl, gb⟩
  go_wp2_with fail
  refine (allowed_any _ _ _ _).mono ?_; rintro e wc ⟨rfl, gc⟩
  go_wp2_with fail
  refine (allowed_any _ _ _ _).mono ?_; rintro e wd ⟨rfl, gd⟩
  go_wp2_with fail
  refine (allowed_any _ _ _ _).mono ?_; rintro e we ⟨rfl, ge⟩
  go_wp2_with fail
  refine (allowed_any _ _ _ _).mono ?_; rintro e wf ⟨rfl, gf⟩
  go_wp2_with fail
  go_ret
  exact ⟨rfl, Grown_trans (Grown_trans (Grown_trans (Grown_trans (Grown_trans ga gb) gc) gd) ge) gf⟩

theorem walk_no (a0 a1 a2 : Int) (a3 : Bool) (w : World) (h : ¬ a2 < 0) (h1 : ¬ wrap64 (a1 + a2) < a1) (h2 : ¬ a0 < wrap64 (a0 - a2)) (h3 : ¬ a0 ≤ a1) :
    Calls Try.prog 3 #[.int .i64 a0, .int .i64 a1, .int .i64 a2, .bool a3] w fun e w' => e = .returned (.bool true) ∧ Grown w w' := by
  go_enter Try.func3, Try.ntmps3
  go_wp2
  go_ret
  exact ⟨rfl, by repeat (first | exact Grown.refl _ | apply Grown.drew | apply Grown.alloc)⟩

theorem walk (a0 : Int) (a1 : Int) (a2 : Int) (a3 : Bool) (w0 : (Lit.int .i64 a0).wf = true) (w1 : (Lit.int .i64 a1).wf = true) (w2 : (Lit.int .i64 a2).wf = true) (w : World) :
    Calls Try.prog 3 #[.int .i64 a0, .int .i64 a1, .int .i64 a2, .bool a3] w fun e w' => e = .returned (.bool true) ∧ Grown w w' := by
  by_cases h : a2 < 0
  · exact walk_neg a0 a1 a2 a3 w h
  by_cases h1 : wrap64 (a1 + a2) < a1
  · exact walk_over1 a0 a1 a2 a3 w h h1
  by_cases h2 : a0 < wrap64 (a0 - a2)
  · exact walk_over2 a0 a1 a2 a3 w h h1 h2
  by_cases h3 : a0 ≤ a1
  · exact walk_yes a0 a1 a2 a3 w h h1 h2 h3
  · exact walk_no a0 a1 a2 a3 w h h1 h2 h3

/-! ### THE ROW's STEP: WRITTEN OUT: LEAVE IT -/
set_option maxRecDepth 100000 in
theorem lifted (os : Os) (started : os.Started) (H : Type) (enc : TypeId × Value → H) :
    ReturnsInHanded {} Try.checked os 3 .any (Rows.fnP2PAllowedGrowsWithTheLevelSpec.pre6 enc Try.prog Try.f3 Rows.fnP2PAllowedGrowsWithTheLevelRow.domain false) (Rows.fnP2PAllowedGrowsWithTheLevelSpec.post enc Try.prog Try.f3 false true false false) := by
  refine returnsInHanded_of_change (C := Try.checked) own started (by kernel_rfl) Try.func3
    (ChangeSpec.witness6 (enc := enc) (C := Try.checked) false ⟨#[], #[.int .i64 0, .int .i64 0, .int .i64 0, .bool false], []⟩ 8 (by kernel_rfl) (by kernel_rfl) (by kernel_rfl) (by kernel_rfl)) ?_
  intro W base args ds gs before hval0 hW hcnd _
  have hval : ∀ (j : Nat) t v, Try.f3.params[j]? = some t → args[j]? = some v → Value.okWide Try.prog W .any base t v := hval0
  have hW' := hW
  obtain ⟨p, q, hA0, hV, rfl, hfz, hnd⟩ := hW
  have hA : DataW.TrodAll enc Try.prog W 0 (fun _ => true) true Try.f3.params.toList args.toList ds p := hA0
  rw [Try.params3] at hA hval
  obtain ⟨v0, vs0, d0, ds0, p0, q0, hargs, rfl, rfl, h0, r0⟩ := trodAll_cons hA
  obtain ⟨v1, vs1, d1, ds1, p1, q1, rfl, rfl, rfl, h1, r1⟩ := trodAll_cons r0
  obtain ⟨v2, vs2, d2, ds2, p2, q2, rfl, rfl, rfl, h2, r2⟩ := trodAll_cons r1
  obtain ⟨v3, vs3, d3, ds3, p3, q3, rfl, rfl, rfl, h3, r3⟩ := trodAll_cons r2
  obtain ⟨rfl, rfl, rfl⟩ := trodAll_nil r3
  obtain rfl : args = #[v0, v1, v2, v3] := by cases args; simp_all
  obtain ⟨rfl, rfl⟩ := trodVars_none hV
  obtain ⟨a0, rfl, rfl, rfl, w0⟩ := open_int Try.underlying3 (hval 0 3 v0 rfl rfl) h0
  obtain ⟨a1, rfl, rfl, rfl, w1⟩ := open_int Try.underlying3 (hval 1 3 v1 rfl rfl) h1
  obtain ⟨a2, rfl, rfl, rfl, w2⟩ := open_int Try.underlying3 (hval 2 3 v2 rfl rfl) h2
  obtain ⟨a3, rfl, rfl, rfl⟩ := open_bool Try.underlying4 (hval 3 4 v3 rfl rfl) h3
  clear hA0 hval0
  simp only [List.append_nil] at hW'
  refine (walk a0 a1 a2 a3 w0 w1 w2 W).mono fun e W' ⟨he, hg⟩ => ?_
  subst he
  exact ⟨_, rfl, post_of_same (pa := []) (pv := []) hW' (fun _ _ _ => (trodAll_cons_mk (shut_bool Try.underlying4 _) trodAll_mk0)) (fun sp _ => (trodAll_cons_mk (shut_int Try.underlying3 w0) (trodAll_cons_mk (shut_int Try.underlying3 w1) (trodAll_cons_mk (shut_int Try.underlying3 w2) (trodAll_cons_mk (shut_bool Try.underlying4 _) trodAll_mk0))))) (fun _ _ => rfl) rfl
    (hg.frame _) hg.2.1 (ok_one (by kernel_rfl) rfl (okWide_bool_mk Try.underlying4 _))⟩

theorem over : Rows.fnP2PAllowedGrowsWithTheLevelRow.holds Try.pinned (OpenSpec.ofChange Rows.fnP2PAllowedGrowsWithTheLevelSpec) :=
  OpenClaim.holds_of_wide 3 Try.f3 rfl rfl rfl rfl rfl rfl rfl ⟨rfl, rfl, rfl, rfl, rfl⟩ rfl rfl rfl rfl rfl (by kernel_rfl) Try.func3 (by kernel_rfl)
    (of_decide_eq_true (by kernel_rfl)) (by unfold Func.isWrapper; first | (rw [if_pos (by decide +kernel)]; kernel_rfl) | (rw [if_neg (by decide +kernel)]; exact ⟨rfl, rfl⟩))
    (fun os started H enc _ => lifted os started H enc)

/-- ████ THE STATEMENT ████ -/
theorem proved : Rows.FnP2PAllowedGrowsWithTheLevelSaid :=
  over
end Go.Proofs.Qxb6613771a.fnP2PAllowedGrowsWithTheLevel
