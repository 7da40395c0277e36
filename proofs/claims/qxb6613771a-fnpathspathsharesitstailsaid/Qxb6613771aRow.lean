/-
  Rows of cells that a call made for itself, steps that are never written again, and the state of the search.
-/
import Derived.Test.Qxb6613771aPath
namespace Go.Proofs.Qxb6613771a
open Go.RowKit
set_option linter.unusedVariables false

def upd {α : Type} (f : Nat → α) (i : Nat) (v : α) : Nat → α := fun j => if j = i then v else f j
theorem upd_same {α : Type} (f : Nat → α) (i : Nat) (v : α) : upd f i v i = v := by simp [upd]
theorem upd_other {α : Type} (f : Nat → α) (i : Nat) (v : α) {j : Nat} (h : j ≠ i) : upd f i v j = f j := by simp [upd, h]

/-- Block b: n cells of type t, f of each index. -/
def Row (w : World) (b : Nat) (t : TypeId) (f : Nat → Value) (n : Nat) : Prop := ∃ cur, w.heap[b]? = some (.cells cur t (0, 0)) ∧ cur.size = n ∧ ∀ i, i < n → cur[i]? = some (f i)
section
variable {w w' : World} {b n : Nat} {t : TypeId} {f : Nat → Value}
theorem Row.blk (h : Row w b t f n) : Blk w b := by obtain ⟨c, h, _⟩ := h; exact ⟨c, t, h⟩
theorem Row.lt (h : Row w b t f n) : b < w.heap.size := h.blk.lt
theorem Row.cell (h : Row w b t f n) {i : Nat} (hi : i < n) : w.cell? ⟨b, i, none⟩ = some (f i) := by
  obtain ⟨c, h, _, h2⟩ := h
  simp only [World.cell?, h]
  exact h2 i hi
theorem Row.cell' (h : Row w b t f n) {i : Nat} (hi : i < n) {v : Value} (hv : f i = v) : w.cell? ⟨b, i, none⟩ = some v := by rw [h.cell hi, hv]
theorem Row.frozen (h : Row w b t f n) (i : Nat) : w.frozen? ⟨b, i, none⟩ = false := by
  obtain ⟨c, h, _, h2⟩ := h
  simp [World.frozen?, h]
theorem Row.fun_eq {g : Nat → Value} (h : Row w b t f n) (e : ∀ i, i < n → f i = g i) : Row w b t g n := by
  obtain ⟨c, h, h1, h2⟩ := h
  exact ⟨c, h, h1, fun i hi => by rw [h2 i hi, e i hi]⟩
theorem Row.heap (h : Row w b t f n) (e : w'.heap[b]? = w.heap[b]?) : Row w' b t f n := by
  obtain ⟨c, h, h2⟩ := h
  exact ⟨c, e.trans h, h2⟩
theorem Row.grown {r : Option Nat} (h : Row w b t f n) (hg : w.grownBy w' r) (hne : some b ≠ r) : Row w' b t f n := h.heap (hg.block b h.lt hne)
theorem Row.below {B : Nat} (h : Row w b t f n) (hb : Below B w w') (hB : b < B) : Row w' b t f n := h.heap (hb.block b hB)
theorem Row.alloc (h : Row w b t f n) (o : Obj) : Row (w.alloc o) b t f n := h.below (B := w.heap.size) ((Below.refl _ _).alloc (Nat.le_refl _) o) h.lt
theorem Row.set (h : Row w b t f n) {i : Nat} (hi : i < n) (v : Value) : Row (w.setCell ⟨b, i, none⟩ v) b t (upd f i v) n := by
  obtain ⟨c, h, h1, h2⟩ := h
  refine ⟨c.setIfInBounds i v, heap_setCell_same w b i c t v h, by simp [h1], fun j hj => ?_⟩
  by_cases e : j = i
  · subst e
    simp [upd, h1, hi]
  · rw [upd_other _ _ _ e, Array.getElem?_setIfInBounds_ne (Ne.symm e)]
    exact h2 j hj
theorem Row.keep (h : Row w b t f n) {a : Addr} (hne : b ≠ a.block) (v : Value) : Row (w.setCell a v) b t f n := h.heap (heap_setCell_other w a b v hne)
theorem Row.ne {w : World} {b' n' : Nat} {t' : TypeId} {f' : Nat → Value} (h : Row w b t f n) (h' : Row w b' t' f' n') (ht : t ≠ t') : b ≠ b' := by
  rintro rfl
  obtain ⟨c, h, _⟩ := h
  obtain ⟨c', h', _⟩ := h'
  rw [h] at h'
  simp at h'
  exact ht h'.2
theorem Row.made {base : Nat} {z : Value} (hz : z.cells = #[z]) (h : w.ownsRow base t 1 (.slice (some ⟨b, 0, none⟩) n n) n (madeCells z.cells (n * 1)).toList) : Row w b t (fun _ => z) n := by
  obtain ⟨_, ⟨h1, _⟩ | ⟨g, cap, cur, h1, _, h2, _, _, h3, h4⟩⟩ := h
  · simp at h1
  · simp at h1
    obtain ⟨rfl, rfl⟩ := h1
    have h3 : cur.size = n := by omega
    have e : cur.toList = (madeCells z.cells n).toList := by
      rw [Nat.mul_one] at h4
      rw [← h4, List.take_of_length_le (by simp; omega)]
    have e2 : cur = madeCells z.cells n := Array.ext' e
    refine ⟨cur, h2, h3, fun i hi => ?_⟩
    rw [e2, hz]
    simp [madeCells, hi, Nat.mod_one]
end

/-- A step's block. -/
def SB (w : World) (g : Nat) (c : Array Value) : Prop := w.heap[g]? = some (.cells c 75 (0, 0))
theorem SB.lt {w : World} {g : Nat} {c : Array Value} (h : SB w g c) : g < w.heap.size := (Array.getElem?_eq_some_iff.1 h).1
theorem SB.cell {w : World} {g : Nat} {c : Array Value} (h : SB w g c) {i : Nat} {v : Value} (hv : c[i]? = some v) : w.cell? ⟨g, i, none⟩ = some v := by
  unfold SB at h
  simp only [World.cell?, h]
  exact hv
/-- No step is written again. -/
def K75 (w w' : World) : Prop := ∀ g c, SB w g c → SB w' g c
theorem K75.refl (w : World) : K75 w w := fun _ _ h => h
theorem K75.trans {a b c : World} (h : K75 a b) (k : K75 b c) : K75 a c := fun g x hx => k g x (h g x hx)
theorem K75.below {w w' : World} (hb : Below w.heap.size w w') : K75 w w' := fun g c h => (hb.block g h.lt).trans h
theorem K75.alloc (w : World) (o : Obj) : K75 w (w.alloc o) := K75.below ((Below.refl _ _).alloc (Nat.le_refl _) o)
theorem K75.grown {w w' : World} {r b n : Nat} {t : TypeId} {f : Nat → Value} (hg : w.grownBy w' (some b)) (h : Row w b t f n) (ht : t ≠ 75) : K75 w w' := fun g c hs => by
  refine (hg.block g hs.lt ?_).trans hs
  rintro e
  have e : g = b := Option.some.inj e
  subst e
  obtain ⟨c', h, _⟩ := h
  unfold SB at hs
  rw [hs] at h
  simp at h
  exact ht h.2.symm
theorem K75.set {w : World} {b n i : Nat} {t : TypeId} {f : Nat → Value} (h : Row w b t f n) (ht : t ≠ 75) (v : Value) : K75 w (w.setCell ⟨b, i, none⟩ v) := fun g c hs => by
  refine (heap_setCell_other w ⟨b, i, none⟩ g v ?_).trans hs
  rintro e
  have e : g = b := e
  subst e
  obtain ⟨c', h, _⟩ := h
  unfold SB at hs
  rw [hs] at h
  simp at h
  exact ht h.2.symm

/-- The steps of chain l, the first in block g. -/
def Ch (w : World) (B : Nat → Nat) (C : Nat → Int) (LB : Nat → Nat) : List Nat → Nat → Prop
  | [], g => SB w g #[.pointer none, .pointer none, .float .f64 4662219572839972864, .int .i64 0, .int .i64 0]
  | j :: l, g => ∃ g', SB w g #[np (LB j), np g', .float .f64 (bwL B (j :: l)), .int .i64 (clL C (j :: l)), .int .i64 ((l.length : Int) + 1)] ∧ Ch w B C LB l g'
theorem Ch.keep {w w' : World} {B : Nat → Nat} {C : Nat → Int} {LB : Nat → Nat} (h : K75 w w') : ∀ {l : List Nat} {g : Nat}, Ch w B C LB l g → Ch w' B C LB l g
  | [], g, hc => h g _ hc
  | j :: l, g, ⟨g', h1, h2⟩ => ⟨g', h g _ h1, Ch.keep h h2⟩
theorem Ch.steps {w : World} {B : Nat → Nat} {C : Nat → Int} {LB : Nat → Nat} : ∀ {l : List Nat} {g : Nat}, Ch w B C LB l g → Steps w LB l g
  | [], g, hc => hc.cell rfl
  | j :: l, g, ⟨g', h1, h2⟩ => ⟨g', h1.cell rfl, h1.cell rfl, Ch.steps h2⟩
theorem Ch.cells {w : World} {B : Nat → Nat} {C : Nat → Int} {LB : Nat → Nat} {l : List Nat} {g : Nat} (h : Ch w B C LB l g) :
    w.cell? ⟨g, 2, none⟩ = some (.float .f64 (bwL B l)) ∧ w.cell? ⟨g, 3, none⟩ = some (.int .i64 (clL C l)) ∧ w.cell? ⟨g, 4, none⟩ = some (.int .i64 l.length) := by
  cases l with
  | nil => exact ⟨h.cell rfl, h.cell rfl, h.cell rfl⟩
  | cons j l =>
    obtain ⟨g', h1, _⟩ := h
    exact ⟨h1.cell rfl, h1.cell rfl, h1.cell (by simp)⟩
end Go.Proofs.Qxb6613771a
