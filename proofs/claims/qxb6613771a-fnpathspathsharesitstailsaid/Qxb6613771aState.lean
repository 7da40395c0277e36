/-
  The state of buildPaths' search: five rows, and the steps behind one of them.
-/
import Derived.Test.Qxb6613771aRow
namespace Go.Proofs.Qxb6613771a
open Go.RowKit
set_option linter.unusedVariables false

/-- What the five rows hold. -/
structure Sx where
  S : Nat → Nat
  G : Nat → Option Nat
  f2 : Nat → Nat
  f3 : Nat → Int
  f4 : Nat → Int

def gp (o : Option Nat) : Value := .pointer (o.map fun g => ⟨g, 0, none⟩)
theorem gp_none : gp none = .pointer none := rfl
theorem gp_some (g : Nat) : gp (some g) = np g := rfl

structure DS (n D : Nat) (P : Nat → Int) (B : Nat → Nat) (C : Nat → Int) (LB : Nat → Nat) (sb bb cb hb tb : Nat) (w : World) (s : Sx) : Prop where
  ord : sb < bb ∧ bb < cb ∧ cb < hb ∧ hb < tb
  st : Row w sb 35 (fun i => gp (s.G i)) n
  bw : Row w bb 34 (fun i => .float .f64 (s.f2 i)) n
  cl : Row w cb 3 (fun i => .int .i64 (s.f3 i)) n
  hp : Row w hb 3 (fun i => .int .i64 (s.f4 i)) n
  sta : Row w tb 3 (fun i => .int .i64 (s.S i)) n
  good : ∀ j g, j < n → s.G j = some g → ∃ l, IsCh n D P l j ∧ Ch w B C LB l g ∧ s.f2 j = bwL B l ∧ s.f3 j = clL C l ∧ s.f4 j = l.length

section
variable {n D : Nat} {P : Nat → Int} {B : Nat → Nat} {C : Nat → Int} {LB : Nat → Nat} {sb bb cb hb tb : Nat} {w w' : World} {s : Sx}

theorem DS.goodK (h : DS n D P B C LB sb bb cb hb tb w s) (hk : K75 w w') : ∀ j g, j < n → s.G j = some g → ∃ l, IsCh n D P l j ∧ Ch w' B C LB l g ∧ s.f2 j = bwL B l ∧ s.f3 j = clL C l ∧ s.f4 j = l.length := fun j g hj hg => by
  obtain ⟨l, h1, h2, h3⟩ := h.good j g hj hg
  exact ⟨l, h1, h2.keep hk, h3⟩

theorem DS.setT (h : DS n D P B C LB sb bb cb hb tb w s) {j : Nat} (hj : j < n) (v : Nat) : DS n D P B C LB sb bb cb hb tb (w.setCell ⟨tb, j, none⟩ (.int .i64 v)) { s with S := upd s.S j v } := by
  have ho := h.ord
  refine ⟨ho, h.st.keep (by show sb ≠ tb; omega) _, h.bw.keep (by show bb ≠ tb; omega) _, h.cl.keep (by show cb ≠ tb; omega) _, h.hp.keep (by show hb ≠ tb; omega) _, (h.sta.set hj _).fun_eq ?_, h.goodK (K75.set h.sta (by decide) _)⟩
  intro i hi
  simp only [upd]
  split <;> rfl
theorem DS.setB (h : DS n D P B C LB sb bb cb hb tb w s) {j : Nat} (hj : j < n) (hg : s.G j = none) (v : Nat) : DS n D P B C LB sb bb cb hb tb (w.setCell ⟨bb, j, none⟩ (.float .f64 v)) { s with f2 := upd s.f2 j v } := by
  have ho := h.ord
  refine ⟨ho, h.st.keep (by show sb ≠ bb; omega) _, (h.bw.set hj _).fun_eq ?_, h.cl.keep (by show cb ≠ bb; omega) _, h.hp.keep (by show hb ≠ bb; omega) _, h.sta.keep (by show tb ≠ bb; omega) _, fun i g hi hgi => ?_⟩
  · intro i hi
    simp only [upd]
    split <;> rfl
  · have hne : i ≠ j := by rintro rfl; have : s.G i = some g := hgi; rw [hg] at this; cases this
    have := h.goodK (K75.set (i := j) h.bw (by decide) (.float .f64 v)) i g hi hgi
    simpa [upd_other _ _ _ hne] using this
theorem DS.setC (h : DS n D P B C LB sb bb cb hb tb w s) {j : Nat} (hj : j < n) (hg : s.G j = none) (v : Int) : DS n D P B C LB sb bb cb hb tb (w.setCell ⟨cb, j, none⟩ (.int .i64 v)) { s with f3 := upd s.f3 j v } := by
  have ho := h.ord
  refine ⟨ho, h.st.keep (by show sb ≠ cb; omega) _, h.bw.keep (by show bb ≠ cb; omega) _, (h.cl.set hj _).fun_eq ?_, h.hp.keep (by show hb ≠ cb; omega) _, h.sta.keep (by show tb ≠ cb; omega) _, fun i g hi hgi => ?_⟩
  · intro i hi
    simp only [upd]
    split <;> rfl
  · have hne : i ≠ j := by rintro rfl; have : s.G i = some g := hgi; rw [hg] at this; cases this
    have := h.goodK (K75.set (i := j) h.cl (by decide) (.int .i64 v)) i g hi hgi
    simpa [upd_other _ _ _ hne] using this
theorem DS.setH (h : DS n D P B C LB sb bb cb hb tb w s) {j : Nat} (hj : j < n) (hg : s.G j = none) (v : Int) : DS n D P B C LB sb bb cb hb tb (w.setCell ⟨hb, j, none⟩ (.int .i64 v)) { s with f4 := upd s.f4 j v } := by
  have ho := h.ord
  refine ⟨ho, h.st.keep (by show sb ≠ hb; omega) _, h.bw.keep (by show bb ≠ hb; omega) _, h.cl.keep (by show cb ≠ hb; omega) _, (h.hp.set hj _).fun_eq ?_, h.sta.keep (by show tb ≠ hb; omega) _, fun i g hi hgi => ?_⟩
  · intro i hi
    simp only [upd]
    split <;> rfl
  · have hne : i ≠ j := by rintro rfl; have : s.G i = some g := hgi; rw [hg] at this; cases this
    have := h.goodK (K75.set (i := j) h.hp (by decide) (.int .i64 v)) i g hi hgi
    simpa [upd_other _ _ _ hne] using this
theorem DS.setG (h : DS n D P B C LB sb bb cb hb tb w s) {j g : Nat} (hj : j < n) {l : List Nat} (hc : IsCh n D P l j) (hg : Ch w B C LB l g) (h2 : s.f2 j = bwL B l) (h3 : s.f3 j = clL C l) (h4 : s.f4 j = l.length) :
    DS n D P B C LB sb bb cb hb tb (w.setCell ⟨sb, j, none⟩ (np g)) { s with G := upd s.G j (some g) } := by
  have ho := h.ord
  refine ⟨ho, (h.st.set hj _).fun_eq ?_, h.bw.keep (by show bb ≠ sb; omega) _, h.cl.keep (by show cb ≠ sb; omega) _, h.hp.keep (by show hb ≠ sb; omega) _, h.sta.keep (by show tb ≠ sb; omega) _, fun i g' hi hgi => ?_⟩
  · intro i hi
    simp only [upd]
    split <;> rfl
  · have hk := K75.set (i := j) h.st (by decide) (np g)
    by_cases e : i = j
    · subst e
      have hgi : upd s.G i (some g) i = some g' := hgi
      rw [upd_same] at hgi
      cases hgi
      exact ⟨l, hc, hg.keep hk, h2, h3, h4⟩
    · have hgi : upd s.G j (some g) i = some g' := hgi
      rw [upd_other _ _ _ e] at hgi
      exact h.goodK hk i g' hi hgi
theorem DS.below (h : DS n D P B C LB sb bb cb hb tb w s) (hb' : Below w.heap.size w w') : DS n D P B C LB sb bb cb hb tb w' s :=
  ⟨h.ord, h.st.below hb' h.st.lt, h.bw.below hb' h.bw.lt, h.cl.below hb' h.cl.lt, h.hp.below hb' h.hp.lt, h.sta.below hb' h.sta.lt, h.goodK (K75.below hb')⟩
theorem DS.alloc (h : DS n D P B C LB sb bb cb hb tb w s) (o : Obj) : DS n D P B C LB sb bb cb hb tb (w.alloc o) s := h.below ((Below.refl _ _).alloc (Nat.le_refl _) o)
theorem DS.drew (h : DS n D P B C LB sb bb cb hb tb w s) : DS n D P B C LB sb bb cb hb tb w.drew s := h.below (Below.refl _ _).drew
theorem DS.push (h : DS n D P B C LB sb bb cb hb tb w s) {v : Value} {k : Nat} {xs : List Value} (ho : w.ownsRow (tb + 1) 3 1 v k xs) (hg : w.grownBy w' v.ownBlock) : DS n D P B C LB sb bb cb hb tb w' s := by
  have hord := h.ord
  obtain ⟨_, ⟨rfl, _⟩ | ⟨g, cap, cur, rfl, hgb, hg0, _⟩⟩ := ho
  · have hg : w.grownBy w' none := hg
    exact h.below ⟨hg.os, hg.tape, hg.output, hg.size, fun k hk => hg.block k hk (by simp)⟩
  · have hg : w.grownBy w' (some g) := hg
    have hr : Row w g 3 (fun i => cur[i]?.getD undef) cur.size := ⟨cur, hg0, rfl, fun i hi => by simp [hi]⟩
    exact ⟨hord, h.st.grown hg (by simp; omega), h.bw.grown hg (by simp; omega), h.cl.grown hg (by simp; omega), h.hp.grown hg (by simp; omega), h.sta.grown hg (by simp; omega), h.goodK (K75.grown (r := 0) hg hr (by decide))⟩
end
end Go.Proofs.Qxb6613771a
