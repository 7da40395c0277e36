/-
  The plain side of 'FnPathsPathSharesItsTail': chains of parents. No program, no world.
-/
import Derived.Test.Qxb6613771aLeaf
namespace Go.Proofs.Qxb6613771a
set_option linter.unusedVariables false

/-- l is the list of the nodes left on the way from i to d. -/
def IsCh (n d : Nat) (P : Nat → Int) : List Nat → Nat → Prop
  | [], i => i = d
  | j :: l, i => j = i ∧ i ≠ d ∧ 0 ≤ P i ∧ P i < n ∧ IsCh n d P l (P i).toNat

section
variable {n d : Nat} {P : Nat → Int}

theorem IsCh.uniq : ∀ {l l' : List Nat} {i : Nat}, IsCh n d P l i → IsCh n d P l' i → l = l'
  | [], [], _, _, _ => rfl
  | [], j :: l', i, h, h' => absurd h h'.2.1
  | j :: l, [], i, h, h' => absurd h' h.2.1
  | j :: l, j' :: l', i, h, h' => by
    obtain ⟨rfl, _, _, _, h4⟩ := h
    obtain ⟨rfl, _, _, _, h4'⟩ := h'
    rw [IsCh.uniq h4 h4']
theorem IsCh.cons {l : List Nat} {i : Nat} (hd : i ≠ d) (h0 : 0 ≤ P i) (h1 : P i < n) (h : IsCh n d P l (P i).toNat) : IsCh n d P (i :: l) i := ⟨rfl, hd, h0, h1, h⟩
theorem IsCh.tail {l : List Nat} {i : Nat} (hd : i ≠ d) (h : IsCh n d P l i) : ∃ l', l = i :: l' ∧ 0 ≤ P i ∧ P i < n ∧ IsCh n d P l' (P i).toNat := by
  match l, h with
  | [], h => exact absurd h hd
  | j :: l', h => exact ⟨l', by rw [h.1], h.2.2.1, h.2.2.2.1, h.2.2.2.2⟩
/-- From a node on the way the rest of the way is a chain. -/
theorem IsCh.mem : ∀ {l : List Nat} {i j : Nat}, IsCh n d P l i → j ∈ l → ∃ s, IsCh n d P s j ∧ s.length ≤ l.length
  | [], _, _, _, h => by cases h
  | k :: l, i, j, h, hj => by
    by_cases e : j = k
    · subst e
      have e2 := h.1
      subst e2
      exact ⟨j :: l, h, Nat.le_refl _⟩
    · have hj' : j ∈ l := by
        rcases List.mem_cons.1 hj with h1 | h1
        · exact absurd h1 e
        · exact h1
      obtain ⟨s, hs, hl⟩ := IsCh.mem h.2.2.2.2 hj'
      exact ⟨s, hs, by simp; omega⟩
theorem IsCh.nodup : ∀ {l : List Nat} {i : Nat}, IsCh n d P l i → l.Nodup
  | [], _, _ => List.nodup_nil
  | k :: l, i, h => by
    refine List.nodup_cons.2 ⟨fun hk => ?_, IsCh.nodup h.2.2.2.2⟩
    obtain ⟨s, hs, hl⟩ := IsCh.mem h.2.2.2.2 hk
    have e := h.1
    subst e
    have := IsCh.uniq hs h
    rw [this] at hl
    simp at hl
    omega
theorem IsCh.lt : ∀ {l : List Nat} {i : Nat}, IsCh n d P l i → i < n → ∀ x ∈ l, x < n
  | [], _, _, _, x, hx => by cases hx
  | k :: l, i, h, hi, x, hx => by
    rcases List.mem_cons.1 hx with h1 | h1
    · rw [h1, h.1]; exact hi
    · exact IsCh.lt h.2.2.2.2 (by have := h.2.2.1; have := h.2.2.2.1; omega) x h1
theorem pigeon : ∀ (n : Nat) (l : List Nat), l.Nodup → (∀ x ∈ l, x < n) → l.length ≤ n
  | 0, l, _, h => by
    match l, h with
    | [], _ => simp
    | x :: _, h => exact absurd (h x (by simp)) (by omega)
  | n + 1, l, hn, h => by
    by_cases hm : n ∈ l
    · have h1 := pigeon n (l.erase n) (hn.erase n) (fun x hx => by
        have h2 := (hn.mem_erase_iff).1 hx
        have := h x h2.2
        omega)
      rw [List.length_erase_of_mem hm] at h1
      omega
    · have := pigeon n l hn (fun x hx => by
        have h1 := h x hx
        have : x ≠ n := by rintro rfl; exact hm hx
        omega)
      omega
theorem IsCh.length_le {l : List Nat} {i : Nat} (h : IsCh n d P l i) (hi : i < n) : l.length ≤ n := pigeon n l h.nodup (h.lt hi)

/-- The nodes 'c' lead from i to k, none of them d. -/
def Way (n d : Nat) (P : Nat → Int) : List Nat → Nat → Nat → Prop
  | [], i, k => i = k
  | j :: l, i, k => j = i ∧ i ≠ d ∧ 0 ≤ P i ∧ P i < n ∧ Way n d P l (P i).toNat k

theorem Way.snoc : ∀ {c : List Nat} {i k : Nat}, Way n d P c i k → k ≠ d → 0 ≤ P k → P k < n → Way n d P (c ++ [k]) i (P k).toNat
  | [], i, k, h, hd, h0, h1 => by
    have : i = k := h
    subst this
    exact ⟨rfl, hd, h0, h1, rfl⟩
  | j :: c, i, k, h, hd, h0, h1 => ⟨h.1, h.2.1, h.2.2.1, h.2.2.2.1, Way.snoc h.2.2.2.2 hd h0 h1⟩
theorem Way.to : ∀ {c l : List Nat} {i k : Nat}, Way n d P c i k → IsCh n d P l k → IsCh n d P (c ++ l) i
  | [], l, i, k, h, hl => by
    have : i = k := h
    subst this
    exact hl
  | j :: c, l, i, k, h, hl => ⟨h.1, h.2.1, h.2.2.1, h.2.2.2.1, Way.to h.2.2.2.2 hl⟩
theorem Way.from : ∀ {c l : List Nat} {i k : Nat}, Way n d P c i k → IsCh n d P l i → ∃ l', l = c ++ l' ∧ IsCh n d P l' k
  | [], l, i, k, h, hl => by
    have : i = k := h
    subst this
    exact ⟨l, rfl, hl⟩
  | j :: c, l, i, k, h, hl => by
    obtain ⟨l1, rfl, _, _, h1⟩ := hl.tail h.2.1
    obtain ⟨l2, rfl, h2⟩ := Way.from h.2.2.2.2 h1
    exact ⟨l2, by rw [h.1]; rfl, h2⟩
/-- From any node on the way. -/
theorem Way.drop : ∀ {c : List Nat} {i k : Nat} (m : Nat) (hm : m < c.length), Way n d P c i k → Way n d P (c.drop m) c[m] k
  | j :: c, i, k, 0, hm, h => by
    have := h.1
    subst this
    exact h
  | j :: c, i, k, m + 1, hm, h => by
    simp at hm
    simpa using Way.drop m hm h.2.2.2.2
theorem Way.last : ∀ {c : List Nat} {i k : Nat} (m : Nat) (hm : m < c.length), Way n d P c i k → c[m] ≠ d ∧ 0 ≤ P c[m] ∧ P c[m] < n ∧ (P c[m]).toNat = (if h : m + 1 < c.length then c[m + 1] else k)
  | [j], i, k, 0, hm, h => by
    have e := h.1
    subst e
    exact ⟨h.2.1, h.2.2.1, h.2.2.2.1, by simp; exact h.2.2.2.2⟩
  | j :: j2 :: c, i, k, 0, hm, h => by
    have e := h.1
    subst e
    refine ⟨h.2.1, h.2.2.1, h.2.2.2.1, ?_⟩
    simp
    exact h.2.2.2.2.1.symm
  | j :: c, i, k, m + 1, hm, h => by
    simp at hm
    have := Way.last m hm h.2.2.2.2
    simpa using this
/-- A way that comes back to itself leads nowhere. -/
theorem Way.cycle {c : List Nat} {i k : Nat} (hk : k ∈ c) (h : Way n d P c i k) : ∀ l, ¬ IsCh n d P l k := by
  intro l hl
  obtain ⟨m, hm, rfl⟩ := List.getElem_of_mem hk
  have h1 := (Way.drop m hm h).to hl
  have := h1.uniq hl
  have e := congrArg List.length this
  simp at e
  omega
theorem Way.none {c : List Nat} {i k : Nat} (h : Way n d P c i k) (hk : ∀ l, ¬ IsCh n d P l k) (m : Nat) (hm : m < c.length) : ∀ l, ¬ IsCh n d P l c[m] := by
  intro l hl
  obtain ⟨l', _, h'⟩ := (Way.drop m hm h).from hl
  exact hk l' h'
/-- Nothing leads on from a node whose parent is none. -/
theorem IsCh.stop {i : Nat} (hd : i ≠ d) (h : ¬ (0 ≤ P i ∧ P i < n)) : ∀ l, ¬ IsCh n d P l i := by
  intro l hl
  obtain ⟨_, _, h0, h1, _⟩ := hl.tail hd
  exact h ⟨h0, h1⟩
theorem IsCh.atDest (l : List Nat) (h : IsCh n d P l d) : l = [] := h.uniq (l' := []) rfl
end

/-- The bandwidth, the class that a step of chain l bears. -/
def bwL (b : Nat → Nat) : List Nat → Nat
  | [] => 4662219572839972864
  | [j] => b j
  | j :: l => minB (b j) (bwL b l)
def clL (c : Nat → Int) : List Nat → Int
  | [] => 0
  | [j] => c j
  | j :: l => maxZ (c j) (clL c l)
theorem bwL_one (b : Nat → Nat) (j : Nat) : bwL b [j] = b j := rfl
theorem clL_one (c : Nat → Int) (j : Nat) : clL c [j] = c j := rfl
theorem bwL_more (b : Nat → Nat) (j : Nat) (l : List Nat) (h : l ≠ []) : bwL b (j :: l) = minB (b j) (bwL b l) := by
  match l, h with
  | k :: l, _ => rfl
theorem clL_more (c : Nat → Int) (j : Nat) (l : List Nat) (h : l ≠ []) : clL c (j :: l) = maxZ (c j) (clL c l) := by
  match l, h with
  | k :: l, _ => rfl
theorem maxZ_ge (a b : Int) : b ≤ maxZ a b := by unfold maxZ; split <;> omega
end Go.Proofs.Qxb6613771a
