/-
  The plain side of buildPaths' search: what is marked, and what holds of the marks.
-/
import Derived.Test.Qxb6613771aState
namespace Go.Proofs.Qxb6613771a
set_option linter.unusedVariables false

def mark (S : Nat → Nat) (c : List Nat) (v : Nat) : Nat → Nat := fun j => if j ∈ c then v else S j
theorem mark_nil (S : Nat → Nat) (v : Nat) : mark S [] v = S := by funext j; simp [mark]
theorem mark_snoc (S : Nat → Nat) (c : List Nat) (x v : Nat) : upd (mark S c v) x v = mark S (c ++ [x]) v := by
  funext j
  simp only [upd, mark, List.mem_append, List.mem_singleton]
  by_cases h1 : j = x
  · simp [h1]
  · by_cases h2 : j ∈ c <;> simp [h1, h2]
theorem mark_drop (S : Nat → Nat) (c : List Nat) (m v : Nat) (hm : m < c.length) : upd (mark S (c.drop (m + 1)) v) c[m] v = mark S (c.drop m) v := by
  funext j
  have e : c.drop m = c[m] :: c.drop (m + 1) := List.drop_eq_getElem_cons hm
  simp only [upd, mark, e, List.mem_cons]
  by_cases h1 : j = c[m]
  · simp [h1]
  · by_cases h2 : j ∈ c.drop (m + 1) <;> simp [h1, h2]
theorem mark_all (S : Nat → Nat) (c : List Nat) : mark (mark S c 1) (c.drop 0) 2 = mark S c 2 := by
  funext j
  simp only [mark, List.drop_zero]
  by_cases h : j ∈ c <;> simp [h]

structure SInv (n D : Nat) (P : Nat → Int) (i : Nat) (s : Sx) : Prop where
  two : ∀ j, j < n → s.S j = 0 ∨ s.S j = 2
  zero : ∀ j, j < n → s.S j = 0 → s.G j = none
  dead : ∀ j, j < n → s.S j = 2 → s.G j = none → ∀ l, ¬ IsCh n D P l j
  done : ∀ j, j < i → s.S j = 2
  dst : s.S D = 2

/-- The stack of one search. -/
structure Stk (n : Nat) (s : Sx) (i : Nat) (c : List Nat) : Prop where
  nd : c.Nodup
  el : ∀ x ∈ c, x < n ∧ s.S x = 0
  hd : i ∈ c ∨ c = []

theorem SInv.start (n D : Nat) (P : Nat → Int) (g : Nat) (f2 : Nat → Nat) (f3 f4 : Nat → Int) : SInv n D P 0 ⟨upd (fun _ => 0) D 2, upd (fun _ => none) D (some g), f2, f3, f4⟩ := by
  refine ⟨fun j hj => ?_, fun j hj h => ?_, fun j hj h1 h2 => ?_, fun j hj => absurd hj (Nat.not_lt_zero _), upd_same (fun _ => 0) D 2⟩
  · by_cases e : j = D
    · right; show upd (fun _ => 0) D 2 j = 2; rw [e, upd_same]
    · left; show upd (fun _ => 0) D 2 j = 0; rw [upd_other _ _ _ e]
  · have h : upd (fun _ => 0) D 2 j = 0 := h
    show upd (fun _ => none) D (some g) j = none
    by_cases e : j = D
    · rw [e, upd_same] at h; cases h
    · rw [upd_other _ _ _ e]
  · have h1 : upd (fun _ => 0) D 2 j = 2 := h1
    have h2 : upd (fun _ => none) D (some g) j = none := h2
    by_cases e : j = D
    · rw [e, upd_same] at h2; cases h2
    · rw [upd_other _ _ _ e] at h1; cases h1

theorem Stk.nil (n : Nat) (s : Sx) (i : Nat) : Stk n s i [] := ⟨List.nodup_nil, fun x hx => (by cases hx), .inr rfl⟩
theorem Stk.length_le {n : Nat} {s : Sx} {i : Nat} {c : List Nat} (h : Stk n s i c) : c.length ≤ n := pigeon n c h.nd (fun x hx => (h.el x hx).1)
/-- Marked 0 yet: it is not on the stack, and it was 0 before. -/
theorem mark_zero {S : Nat → Nat} {c : List Nat} {x : Nat} (h : mark S c 1 x = 0) : x ∉ c ∧ S x = 0 := by
  unfold mark at h
  split at h
  · cases h
  · exact ⟨by assumption, h⟩
theorem Stk.snoc {n D : Nat} {P : Nat → Int} {s : Sx} {i x : Nat} {c : List Nat} (h : Stk n s i c) (hx : x < n) (h0 : mark s.S c 1 x = 0) (hw : Way n D P c i x) : Stk n s i (c ++ [x]) := by
  obtain ⟨h1, h2⟩ := mark_zero h0
  refine ⟨List.nodup_append.2 ⟨h.nd, by simp, fun a ha b hb e => ?_⟩, fun y hy => ?_, .inl ?_⟩
  · simp at hb
    subst hb
    subst e
    exact h1 ha
  · rcases List.mem_append.1 hy with hy | hy
    · exact h.el y hy
    · simp at hy
      subst hy
      exact ⟨hx, h2⟩
  · rcases h.hd with h3 | h3
    · simp [h3]
    · subst h3
      have : i = x := hw
      simp [this]

theorem SInv.next {n D : Nat} {P : Nat → Int} {i : Nat} {s s' : Sx} {c : List Nat} (h : SInv n D P i s) (hD : D < n) (hi : i < n) (hS : ∀ j, j < n → s'.S j = mark s.S c 2 j) (hc : Stk n s i c)
    (hG : ∀ j, j < n → j ∉ c → s'.G j = s.G j) (hdead : ∀ x ∈ c, s'.G x = none → ∀ l, ¬ IsCh n D P l x) (hii : c = [] → s.S i = 2) : SInv n D P (i + 1) s' := by
  have hS2 : ∀ j, j < n → j ∈ c → s'.S j = 2 := fun j hj hm => by rw [hS j hj]; simp [mark, hm]
  have hS3 : ∀ j, j < n → j ∉ c → s'.S j = s.S j := fun j hj hm => by rw [hS j hj]; simp [mark, hm]
  refine ⟨fun j hj => ?_, fun j hj h0 => ?_, fun j hj h1 h2 => ?_, fun j hj => ?_, ?_⟩
  · by_cases e : j ∈ c
    · exact .inr (hS2 j hj e)
    · rw [hS3 j hj e]; exact h.two j hj
  · by_cases e : j ∈ c
    · rw [hS2 j hj e] at h0; cases h0
    · rw [hS3 j hj e] at h0
      rw [hG j hj e]; exact h.zero j hj h0
  · by_cases e : j ∈ c
    · exact hdead j e h2
    · rw [hS3 j hj e] at h1
      rw [hG j hj e] at h2
      exact h.dead j hj h1 h2
  · have hjn : j < n := by omega
    by_cases e : j ∈ c
    · exact hS2 j hjn e
    · rw [hS3 j hjn e]
      by_cases e2 : j = i
      · subst e2
        rcases hc.hd with h3 | h3
        · exact absurd h3 e
        · exact hii h3
      · exact h.done j (by omega)
  · by_cases e : D ∈ c
    · exact hS2 D hD e
    · rw [hS3 D hD e]; exact h.dst

/-- How a search ends: at a node that leads on, or nowhere. -/
def Ends (n D : Nat) (P : Nat → Int) (s : Sx) (i : Nat) (c : List Nat) (cur : Int) : Prop :=
  (∃ k g : Nat, cur = k ∧ k < n ∧ Way n D P c i k ∧ k ∉ c ∧ s.S k = 2 ∧ s.G k = some g) ∨
  ((∀ x ∈ c, ∀ l, ¬ IsCh n D P l x) ∧ (cur = -1 ∨ (∃ k : Nat, cur = k ∧ k < n ∧ k ∈ c) ∨ (∃ k : Nat, cur = k ∧ k < n ∧ k ∉ c ∧ s.S k = 2 ∧ s.G k = none)))

theorem Ends.stop {n D : Nat} {P : Nat → Int} {s : Sx} {i x : Nat} {c : List Nat} (hw : Way n D P c i x) (hx : x ≠ D) (h : ¬ (0 ≤ P x ∧ P x < n)) : Ends n D P s i (c ++ [x]) (-1) := by
  have hno := IsCh.stop (n := n) (d := D) (P := P) hx h
  refine .inr ⟨fun y hy => ?_, .inl rfl⟩
  rcases List.mem_append.1 hy with hy | hy
  · obtain ⟨m, hm, rfl⟩ := List.getElem_of_mem hy
    exact hw.none hno m hm
  · simp at hy
    subst hy
    exact hno
theorem Ends.meet {n D : Nat} {P : Nat → Int} {s : Sx} {i k : Nat} {c : List Nat} (hI : SInv n D P i s) (hk : k < n) (hw : Way n D P c i k) (hm : mark s.S c 1 k ≠ 0) : Ends n D P s i c k := by
  by_cases e : k ∈ c
  · have hno := hw.cycle e
    refine .inr ⟨fun y hy => ?_, .inr (.inl ⟨k, rfl, hk, e⟩)⟩
    obtain ⟨m, hm', rfl⟩ := List.getElem_of_mem hy
    exact hw.none hno m hm'
  · have h2 : s.S k = 2 := by
      rcases hI.two k hk with h | h
      · exact absurd (by simp [mark, e, h]) hm
      · exact h
    cases hg : s.G k with
    | some g => exact .inl ⟨k, g, rfl, hk, hw, e, h2, hg⟩
    | none =>
      have hno := hI.dead k hk h2 hg
      refine .inr ⟨fun y hy => ?_, .inr (.inr ⟨k, rfl, hk, e, h2, hg⟩)⟩
      obtain ⟨m, hm', rfl⟩ := List.getElem_of_mem hy
      exact hw.none hno m hm'
end Go.Proofs.Qxb6613771a
