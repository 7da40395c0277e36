/-
  Plain parts of the road of 'FnIsStringAfterInsert': the cells of a list of tokens, the list with one put in, what isString answers on both.
-/
import Derived.Test.Qxb6613816aLeaf
import Derived.Maps.AppendAt
import Derived.Deep.AppendLies
namespace Go.Proofs.Qxb6613816a
open Go.ChangeShapes Go.WideShapes Go.ChangeAt Go.RowKit
set_option linter.unusedVariables false

/-- The cells of n tokens. -/
def tokCells (n : Nat) (K : Nat → Int) (T : Nat → ByteArray) : List Value := (List.range n).flatMap fun i => [.int .i64 (K i), .string (T i)]
theorem tokCells_zero (K : Nat → Int) (T : Nat → ByteArray) : tokCells 0 K T = [] := rfl
theorem tokCells_succ (n : Nat) (K : Nat → Int) (T : Nat → ByteArray) : tokCells (n + 1) K T = tokCells n K T ++ [.int .i64 (K n), .string (T n)] := by
  simp [tokCells, List.range_succ, List.flatMap_append]
theorem tokCells_length (n : Nat) (K : Nat → Int) (T : Nat → ByteArray) : (tokCells n K T).length = n * 2 := by
  induction n with
  | zero => rfl
  | succ n ih => rw [tokCells_succ]; simp [ih]; omega
theorem tokCells_at (n : Nat) (K : Nat → Int) (T : Nat → ByteArray) : ∀ i, i < n → (tokCells n K T)[i * 2]? = some (.int .i64 (K i)) ∧ (tokCells n K T)[i * 2 + 1]? = some (.string (T i)) := by
  induction n with
  | zero => intro i h; omega
  | succ n ih =>
    intro i h
    rw [tokCells_succ]
    have hl := tokCells_length n K T
    by_cases e : i = n
    · subst e
      constructor
      · rw [List.getElem?_append_right (by omega), hl]; simp
      · rw [List.getElem?_append_right (by omega), hl]; simp
    · have := ih i (by omega)
      constructor
      · rw [List.getElem?_append_left (by omega)]; exact this.1
      · rw [List.getElem?_append_left (by omega)]; exact this.2

/-- The list with the token put in at place p. -/
def insK (p : Nat) (tk : Int) (K : Nat → Int) (i : Nat) : Int := if i < p then K i else if i = p then tk else K (i - 1)
def insT (p : Nat) (tt : ByteArray) (T : Nat → ByteArray) (i : Nat) : ByteArray := if i < p then T i else if i = p then tt else T (i - 1)
theorem insK_at (p : Nat) (tk : Int) (K : Nat → Int) : insK p tk K p = tk := by simp [insK]
theorem insT_at (p : Nat) (tt : ByteArray) (T : Nat → ByteArray) : insT p tt T p = tt := by simp [insT]
theorem insK_lo (p : Nat) (tk : Int) (K : Nat → Int) (i : Nat) (h : i < p) : insK p tk K i = K i := by simp [insK, h]
theorem insT_lo (p : Nat) (tt : ByteArray) (T : Nat → ByteArray) (i : Nat) (h : i < p) : insT p tt T i = T i := by simp [insT, h]
theorem insK_hi (p : Nat) (tk : Int) (K : Nat → Int) (i : Nat) (h : p ≤ i) : insK p tk K (i + 1) = K i := by
  have h1 : ¬ i + 1 < p := by omega
  have h2 : ¬ i + 1 = p := by omega
  simp [insK, h1, h2]
theorem insT_hi (p : Nat) (tt : ByteArray) (T : Nat → ByteArray) (i : Nat) (h : p ≤ i) : insT p tt T (i + 1) = T i := by
  have h1 : ¬ i + 1 < p := by omega
  have h2 : ¬ i + 1 = p := by omega
  simp [insT, h1, h2]

/-- How many tokens 'after' holds when k of the old ones have been laid. -/
def aLen (p k : Nat) : Nat := if p < k then k + 1 else k

/-- What isString answers at j of the old list it answers at j, or j + 1, of the new. -/
theorem isStr_before (n p : Nat) (hp : p ≤ n) (tk : Int) (K : Nat → Int) (j : Int) (h : j < p) : isStrB (n + 1) (insK p tk K) j = isStrB n K j := by
  by_cases h0 : j < 0
  · rw [isStr_lo h0, isStr_lo h0]
  obtain ⟨k, rfl⟩ : ∃ k : Nat, j = k := ⟨j.toNat, by omega⟩
  rw [isStr_in (by omega), isStr_in (by omega), insK_lo _ _ _ _ (by omega)]
theorem isStr_behind (n p : Nat) (tk : Int) (K : Nat → Int) (j : Int) (h : ¬ j < p) : isStrB (n + 1) (insK p tk K) (j + 1) = isStrB n K j := by
  obtain ⟨k, rfl⟩ : ∃ k : Nat, j = k := ⟨j.toNat, by omega⟩
  by_cases h1 : k < n
  · rw [show ((k : Int) + 1) = ((k + 1 : Nat) : Int) from by omega, isStr_in (by omega), isStr_in h1, insK_hi _ _ _ _ (by omega)]
  · rw [isStr_hi (by omega), isStr_hi (by omega)]
theorem isStr_put (n p : Nat) (hp : p ≤ n) (tk : Int) (K : Nat → Int) : isStrB (n + 1) (insK p tk K) p = (tk == 2) := by
  rw [isStr_in (by omega), insK_at]

/-- A row of tokens that is owned reads as tokens. -/
theorem toks_of_owns {w : World} {base : Nat} {v : Value} {n : Nat} {K : Nat → Int} {T : Nat → ByteArray} (h : w.ownsRow base 31 2 v n (tokCells n K T)) :
    ∃ ao cap, v = .slice ao n cap ∧ n ≤ maxLen ∧ Toks w ao n K T := by
  obtain ⟨_, ⟨rfl, rfl⟩ | ⟨g, cap, cur, rfl, hb, hh, hn, hc, hs, ht⟩⟩ := h
  · exact ⟨none, 0, rfl, by simp, fun h => absurd h (by omega)⟩
  · refine ⟨_, cap, rfl, by omega, fun _ => ⟨g, 0, rfl, ?_, ?_⟩⟩
    · exact (Array.getElem?_eq_some_iff.1 hh).1
    · intro i hi
      have hat := tokCells_at n K T i hi
      have hl := tokCells_length n K T
      have hcell : ∀ j, j < n * 2 → w.cell? ⟨g, j, none⟩ = (tokCells n K T)[j]? := by
        intro j hj
        rw [cell_of_row w g j cur 31 (0, 0) hh, ← ht, List.getElem?_take_of_lt hj]
        simp
      constructor
      · rw [Nat.zero_add, hcell _ (by omega)]; exact hat.1
      · rw [Nat.zero_add, hcell _ (by omega)]; exact hat.2

/-- Two slice values over different rows. -/
def apart (v u : Value) : Prop := ∀ g, v.ownBlock = some g → u.ownBlock ≠ some g
theorem apart.symm {v u : Value} (h : apart v u) : apart u v := fun g hg hv => h g hv hg

/-- Behind an append to v the other row is as it was, and the two are still apart. -/
theorem push_step {wx w1 : World} {base : Nat} {v u : Value} {n m : Nat} {xs ys : List Value} {g H : Nat} (hv : wx.ownsRow base 31 2 v n xs) (hu : wx.ownsRow base 31 2 u m ys) (hap : apart v u)
    (hgr : wx.grownBy w1 v.ownBlock) (hat : v.ownBlock = some g ∨ g = H) (hH : wx.heap.size = H) (k cap : Nat) :
    w1.ownsRow base 31 2 u m ys ∧ apart (.slice (some ⟨g, 0, none⟩) k cap) u := by
  constructor
  · refine hu.kept hgr ?_
    cases hb : u.ownBlock with
    | none => exact .inl rfl
    | some g' => exact .inr fun e => hap g' e.symm hb
  · intro g' hg' hu'
    simp [Value.ownBlock] at hg'
    subst hg'
    rcases hat with h | h
    · exact hap g h hu'
    · have := (hu.lt g hu').2
      omega

theorem below_push {wx w1 w0 : World} {base B : Nat} {v : Value} {n : Nat} {xs : List Value} (hv : wx.ownsRow base 31 2 v n xs) (hgr : wx.grownBy w1 v.ownBlock) (hb : Below B w0 wx) (hB : B ≤ wx.heap.size) (hbase : B ≤ base) : Below B w0 w1 :=
  hb.grown hgr hB fun k hk => Nat.le_trans hbase (hv.lt k hk).1

theorem news1 (w : World) (x y : Value) (t : TypeId) : ∀ j u, [x, y][j]? = some u → (w.alloc (.cells #[x, y] t)).cell? ((⟨w.heap.size, 0, none⟩ : Addr).add j) = some u := by
  have h : (w.alloc (.cells #[x, y] t)).heap[w.heap.size]? = some (.cells #[x, y] t (0, 0)) := heap_alloc_new _ _
  exact World.news_of_block h
theorem news2 (w : World) (A : Obj) (x y : Value) (t : TypeId) : ∀ j u, [x, y][j]? = some u → ((w.alloc A).alloc (.cells #[x, y] t)).cell? ((⟨w.heap.size + 1, 0, none⟩ : Addr).add j) = some u := by
  have h := news1 (w.alloc A) x y t
  have e : (w.alloc A).heap.size = w.heap.size + 1 := by simp
  rw [e] at h
  exact h
theorem tok_one (k : Int) (s : ByteArray) : ∀ u ∈ [Value.int .i64 k, Value.string s], u.oneCell' = true := by
  intro u hu
  simp at hu
  rcases hu with rfl | rfl <;> rfl
theorem tokCells_put {p k : Nat} (h : k = p) (tk : Int) (tt : ByteArray) (K : Nat → Int) (T : Nat → ByteArray) : tokCells k (insK p tk K) (insT p tt T) ++ [.int .i64 tk, .string tt] = tokCells (k + 1) (insK p tk K) (insT p tt T) := by
  subst h
  rw [tokCells_succ, insK_at, insT_at]
/-- How many 'after' holds in the midst of round k. -/
def mLen (p k : Nat) : Nat := if p ≤ k then k + 1 else k
theorem mLen_at {p k : Nat} (h : k = p) : mLen p k = k + 1 := by simp [mLen, h]
theorem mLen_ne {p k : Nat} (h : ¬ k = p) : mLen p k = aLen p k := by
  unfold mLen aLen
  by_cases h1 : p < k
  · rw [if_pos (by omega), if_pos h1]
  · rw [if_neg (by omega), if_neg h1]
theorem aLen_at {p k : Nat} (h : k = p) : aLen p k = k := by simp [aLen, h]
theorem aLen_succ (p k : Nat) : aLen p (k + 1) = mLen p k + 1 := by
  unfold mLen aLen
  by_cases h1 : p ≤ k
  · rw [if_pos (by omega), if_pos h1]
  · rw [if_neg (by omega), if_neg h1]
theorem mLen_le (p k : Nat) : mLen p k ≤ k + 1 := by unfold mLen; split <;> omega
theorem tokCells_mid (p k : Nat) (tk : Int) (tt : ByteArray) (K : Nat → Int) (T : Nat → ByteArray) : tokCells (mLen p k) (insK p tk K) (insT p tt T) ++ [.int .i64 (K k), .string (T k)] = tokCells (mLen p k + 1) (insK p tk K) (insT p tt T) := by
  rw [tokCells_succ]
  unfold mLen
  by_cases h : p ≤ k
  · rw [if_pos h, insK_hi _ _ _ _ h, insT_hi _ _ _ _ h]
  · rw [if_neg h, insK_lo _ _ _ _ (by omega), insT_lo _ _ _ _ (by omega)]

theorem two_new (w : World) (A : Array Value) (t : TypeId) : ((w.alloc (.cells A t)).alloc (.cells A t)).drew.heap[w.heap.size]? = some (.cells A t (0, 0)) ∧ ((w.alloc (.cells A t)).alloc (.cells A t)).drew.heap[w.heap.size + 1]? = some (.cells A t (0, 0)) ∧
    w.grownBy ((w.alloc (.cells A t)).alloc (.cells A t)).drew none := by
  have e : (w.alloc (.cells A t)).heap.size = w.heap.size + 1 := by simp
  have h1 : (w.alloc (.cells A t)).heap[w.heap.size]? = some (.cells A t (0, 0)) := heap_alloc_new _ _
  have h2 : ((w.alloc (.cells A t)).alloc (.cells A t)).heap[(w.alloc (.cells A t)).heap.size]? = some (.cells A t (0, 0)) := heap_alloc_new _ _
  rw [e] at h2
  refine ⟨?_, h2, ?_⟩
  · show ((w.alloc (.cells A t)).alloc (.cells A t)).heap[w.heap.size]? = _
    rw [Below.heap_alloc _ _ _ (by omega)]
    exact h1
  · have g := (w.grownBy_alloc (.cells A t) none).trans ((w.alloc (.cells A t)).grownBy_alloc (.cells A t) none)
    exact ⟨g.os, g.tape, g.output, g.size, g.block⟩

/-- What the round has behind the token's box: both rows, the old memory. -/
theorem boxed {w0 wd we : World} {base : Nat} {v u : Value} {n m : Nat} {xs ys : List Value} {g : Nat} {x y : Value} (hv : wd.ownsRow base 31 2 v n xs) (hu : wd.ownsRow base 31 2 u m ys) (hb : Below base w0 wd) (hB : base ≤ wd.heap.size)
    (hg : wd.grownBy we none) (hh : we.heap[g]? = some (.cells #[x, y] 31 (0, 0))) (hlo : wd.heap.size ≤ g) :
    we.ownsRow base 31 2 v n xs ∧ we.ownsRow base 31 2 u m ys ∧ Below base w0 we ∧ we.cell? ⟨g, 0, none⟩ = some x ∧ we.cell? ⟨g, 1, none⟩ = some y ∧ some g ≠ v.ownBlock ∧ some g ≠ u.ownBlock ∧ g < we.heap.size := by
  refine ⟨hv.kept hg ?_, hu.kept hg ?_, hb.grown hg hB (fun _ h => by cases h), ?_, ?_, ?_, ?_, (Array.getElem?_eq_some_iff.1 hh).1⟩
  · cases h : v.ownBlock <;> simp
  · cases h : u.ownBlock <;> simp
  · rw [cell_of_row _ _ _ _ _ _ hh]; rfl
  · rw [cell_of_row _ _ _ _ _ _ hh]; rfl
  · intro e; have := (hv.lt g e.symm).2; omega
  · intro e; have := (hu.lt g e.symm).2; omega

theorem pushed {w0 we w1 : World} {base : Nat} {v u : Value} {n m : Nat} {xs ys : List Value} {g1 : Nat} (O : Obj) (hv : we.ownsRow base 31 2 v n xs) (hu : we.ownsRow base 31 2 u m ys) (hap : apart v u) (hb : Below base w0 we) (hB : base ≤ we.heap.size)
    (hgr : (we.alloc O).grownBy w1 v.ownBlock) (hat : v.ownBlock = some g1 ∨ g1 = we.heap.size + 1) (k cap : Nat) :
    w1.ownsRow base 31 2 u m ys ∧ apart (.slice (some ⟨g1, 0, none⟩) k cap) u ∧ Below base w0 w1 := by
  have e : (we.alloc O).heap.size = we.heap.size + 1 := by simp
  have hs := push_step (hv.alloc O) (hu.alloc O) hap hgr hat e k cap
  exact ⟨hs.1, hs.2, below_push (hv.alloc O) hgr (hb.alloc hB O) (by omega) (Nat.le_refl _)⟩
theorem box_kept {we w1 : World} {g : Nat} {row : Option Nat} {x : Value} (O : Obj) {j : Nat} (he : we.cell? ⟨g, j, none⟩ = some x) (hgr : (we.alloc O).grownBy w1 row) (hne : some g ≠ row) : w1.cell? ⟨g, j, none⟩ = some x := by
  have hlt := World.block_lt_of_cell? we _ he
  have h := hgr.cell_far ⟨g, j, none⟩ (by simp; exact Nat.lt_succ_of_lt hlt) hne
  rw [h, ← he]
  exact World.cell?_of_block (Below.heap_alloc _ _ _ hlt)

theorem mLen_end {p n : Nat} (h : p ≤ n) : mLen p n = n + 1 := by simp [mLen, h]

end Go.Proofs.Qxb6613816a
