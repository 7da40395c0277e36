/-
  Bytes that the call owns, and what an append to them leaves of all else. Of no program of its own but for the type number of a byte (5).
-/
import Derived.Test.Qxb6613904aRows
import Derived.WalkKit
import Derived.Lib.VarintMem
import Derived.Lib.AppendStr
import Derived.Maps.AppendAt
namespace Go.Proofs.Qxb6613904a
open Go.RowKit
set_option linter.unusedVariables false

/-- The slice value v owns the bytes xs, in a row from block B on. -/
def Own (B : Nat) (w : World) (v : Value) (xs : List UInt8) : Prop := w.ownsRow B 5 1 v xs.length (Lib.byteCells xs)

/-- From w to w' nothing that was there has turned but v's own row; v' lies in that row or in a new one. -/
def Step (w : World) (v : Value) (w' : World) (v' : Value) : Prop :=
  w.grownBy w' v.ownBlock ∧ (v'.ownBlock = v.ownBlock ∨ ∃ g, v'.ownBlock = some g ∧ w.heap.size ≤ g)

theorem Step.refl (w : World) (v : Value) : Step w v w v := ⟨World.grownBy.refl w _, .inl rfl⟩
theorem Step.trans {w w1 w2 : World} {v v1 v2 : Value} (h : Step w v w1 v1) (k : Step w1 v1 w2 v2) : Step w v w2 v2 := by
  refine ⟨⟨k.1.os.trans h.1.os, k.1.tape.trans h.1.tape, k.1.output.trans h.1.output, Nat.le_trans h.1.size k.1.size, fun i hi hne => ?_⟩, ?_⟩
  · refine (k.1.block i (Nat.lt_of_lt_of_le hi h.1.size) ?_).trans (h.1.block i hi hne)
    rcases h.2 with e | ⟨g, e, hg⟩
    · rw [e]; exact hne
    · rw [e]; intro e2; injection e2 with e2; omega
  · rcases k.2 with e | ⟨g, e, hg⟩
    · rw [e]; exact h.2
    · exact .inr ⟨g, e, Nat.le_trans h.1.size hg⟩
theorem Step.alloc {w w1 : World} {v v1 : Value} (h : Step w v w1 v1) (o : Obj) : Step w v (w1.alloc o) v1 :=
  h.trans ⟨World.grownBy_alloc _ _ _, .inl rfl⟩
theorem Step.drew {w w1 : World} {v v1 : Value} (h : Step w v w1 v1) : Step w v w1.drew v1 :=
  ⟨⟨h.1.os, h.1.tape, h.1.output, h.1.size, h.1.block⟩, h.2⟩
/-- A call that makes blocks alone. -/
theorem Step.below {w w1 w2 : World} {v v1 : Value} (h : Step w v w1 v1) (hb : Below w1.heap.size w1 w2) : Step w v w2 v1 :=
  h.trans ⟨⟨hb.os, hb.tape, hb.output, hb.size, fun k hk _ => hb.block k hk⟩, .inl rfl⟩

theorem Own.alloc {B : Nat} {w : World} {v : Value} {xs : List UInt8} (h : Own B w v xs) (o : Obj) : Own B (w.alloc o) v xs := World.ownsRow.alloc h o
theorem Own.drew {B : Nat} {w : World} {v : Value} {xs : List UInt8} (h : Own B w v xs) : Own B w.drew v xs := World.ownsRow.drew h
theorem Own.nil (B : Nat) (w : World) : Own B w (.slice none 0 0) [] := World.ownsRow_nil _ _ _ _
theorem Own.below {B : Nat} {w w' : World} {v : Value} {xs : List UInt8} (h : Own B w v xs) (hb : Below w.heap.size w w') : Own B w' v xs := by
  refine World.ownsRow.kept (row := none) h ⟨hb.os, hb.tape, hb.output, hb.size, fun k hk _ => hb.block k hk⟩ ?_
  cases v.ownBlock <;> simp
/-- Another row is as it was. -/
theorem Own.far {B C : Nat} {w w' : World} {v u u' : Value} {xs : List UInt8} (h : Own B w v xs) (hs : Step w u w' u') (hne : v.ownBlock = none ∨ v.ownBlock ≠ u.ownBlock) : Own B w' v xs :=
  World.ownsRow.kept h hs.1 hne
theorem Own.lt {B : Nat} {w : World} {v : Value} {xs : List UInt8} (h : Own B w v xs) : ∀ k, v.ownBlock = some k → B ≤ k ∧ k < w.heap.size := World.ownsRow.lt h
/-- The value written out, where there is a byte. -/
theorem Own.form {B : Nat} {w : World} {v : Value} {xs : List UInt8} (h : Own B w v xs) (hp : 0 < xs.length) : ∃ g cap, v = .slice (some ⟨g, 0, none⟩) xs.length cap ∧ g < w.heap.size ∧ xs.length ≤ cap ∧ cap ≤ maxLen ∧ ∀ j (hj : j < xs.length), w.cell? ⟨g, j, none⟩ = some (.int .u8 (xs[j].toNat)) := by
  obtain ⟨hl, ⟨rfl, h0⟩ | ⟨g, cap, cur, rfl, hb, hh, hn, hc, hs, ht⟩⟩ := h
  · omega
  · refine ⟨g, cap, rfl, (Array.getElem?_eq_some_iff.1 hh).1, hn, hc, fun j hj => ?_⟩
    rw [cell_of_row w g j cur 5 (0, 0) hh]
    have e : (cur.toList.take (xs.length * 1))[j]? = (Lib.byteCells xs)[j]? := by rw [ht]
    rw [List.getElem?_take_of_lt (by omega)] at e
    simp only [Array.getElem?_toList] at e
    rw [e]
    simp [Lib.byteCells, hj]
theorem Own.len {B : Nat} {w : World} {v : Value} {xs : List UInt8} (h : Own B w v xs) : xs.length ≤ maxLen := by
  obtain ⟨hl, ⟨rfl, h0⟩ | ⟨g, cap, cur, rfl, hb, hh, hn, hc, hs, ht⟩⟩ := h
  · omega
  · omega

section
variable {P : Program} (w : World)
/-- 'append(buf, s...)', buf the call's own and not nil: the new value in buf's row or in a new one. -/
theorem run_append_str (base : Nat) (t u ty e : TypeId) (i : TypeInfo) (ht : P.underlying t = some (.slice e)) (hu : P.underlying u = some .string) (hi : P.info? e = some i) (hz : i.zero = some (.int .u8 0))
    (hsize : i.size = 1) (hby : i.bytes = 1) (g n cap : Nat) (xs : List Value) (hown : w.ownsRow base e 1 (.slice (some ⟨g, 0, none⟩) n cap) n xs) (s : ByteArray) (hlim : n + s.size ≤ 140737488355328) (hbase : base ≤ w.heap.size) :
    ∃ g' cap' w', (Builtin.append_ #[t, u] ty #[.slice (some ⟨g, 0, none⟩) n cap, .string s]).run P w = .ok (.slice (some ⟨g', 0, none⟩) (n + s.size) cap') w' ∧
      w'.ownsRow base e 1 (.slice (some ⟨g', 0, none⟩) (n + s.size) cap') (n + s.size) (xs ++ Lib.strCells s) ∧ w.grownBy w' (some g) ∧ (g' = g ∨ g' = w.heap.size) := by
  have hcells := hown.cells (g := g) rfl
  obtain ⟨hl, ⟨hv, _⟩ | ⟨g0, cap0, cur, hv, hb, hh, hn, hc, hs, htk⟩⟩ := hown
  · simp at hv
  simp only [Value.slice.injEq, Option.some.injEq, Addr.mk.injEq] at hv
  obtain ⟨⟨rfl, _⟩, _, rfl⟩ := hv
  have hlen : (xs ++ Lib.strCells s).length = n + s.size := by rw [List.length_append, Lib.strCells_length, hl]; omega
  have htk' : cur.toList.take n = xs := by simpa using htk
  by_cases hroom : n + s.size ≤ cap
  · refine ⟨g, cap, _, Lib.run_append_room_string (P := P) w t u ty e i ht hu hi hsize g n cap cur hh s hroom (by omega), ⟨by omega, .inr ⟨g, cap, _, rfl, hb, setRow_heap w g cur _ e _ hh, hroom, hc, ?_, ?_⟩⟩, ⟨rfl, rfl, rfl, by simp, fun k _ hk => setRow_other w g k _ (fun e => hk (by rw [e]))⟩, .inl rfl⟩
    · have : cur.toList.length = cur.size := Array.length_toList
      simp only [List.size_toArray, List.length_append, List.length_take, List.length_drop, Lib.strCells_length]
      omega
    · rw [htk', Nat.mul_one, ← hlen]
      exact List.take_left
  · have hcm : grownCap w (n + s.size) cap e ≤ maxLen := grownCap_le_maxLen w (n + s.size) cap e (by unfold maxLen; omega)
    have hge := grownCap_ge w (n + s.size) cap e
    have hr := Lib.run_append_grow_string (P := P) w t u ty e i (.int .u8 0) ht hu hi hz ⟨g, 0, none⟩ n cap xs (by rw [hsize]; exact hl) hcells s (by omega) (by omega) (by rw [hby]; exact growslice_fits (by omega) (by omega))
    refine ⟨w.heap.size, _, _, hr, ⟨by omega, .inr ⟨w.heap.size, _, _, rfl, hbase, heap_alloc_new w.drew _, hge, hcm, ?_, ?_⟩⟩, ⟨rfl, rfl, rfl, by simp, fun k hk _ => Below.heap_alloc w.drew _ k hk⟩, .inr rfl⟩
    · have hz1 : (Value.int IntKind.u8 0).cells.size = 1 := rfl
      simp only [Array.size_append, List.size_toArray, size_zeroCells, hz1, Lib.strCells_length]
      omega
    · simp only [Array.toList_append]
      rw [Nat.mul_one, ← hlen]
      exact List.take_left

theorem wpList_append_str {ops : Array Oper} {rest : List Oper} {o : Oper} {a : Act} {Q : Exit → Act → World → Prop} (hgd : o.guard = none) (sl x : Operand) (t u : TypeId)
    (ho : o.op = .call { callee := .builtin .append, args := #[sl, x], argTypes := #[t, u] })
    (base : Nat) (e : TypeId) (i : TypeInfo) (ht : P.underlying t = some (.slice e)) (hu : P.underlying u = some .string) (hi : P.info? e = some i) (hz : i.zero = some (.int .u8 0))
    (hsize : i.size = 1) (hby : i.bytes = 1) (g n cap : Nat) (xs : List Value) (hs : a.eval sl = .slice (some ⟨g, 0, none⟩) n cap) (hown : w.ownsRow base e 1 (.slice (some ⟨g, 0, none⟩) n cap) n xs) (s : ByteArray) (hx : a.eval x = .string s)
    (hlim : n + s.size ≤ 140737488355328) (hbase : base ≤ w.heap.size)
    (h : ∀ g' cap' w', w'.ownsRow base e 1 (.slice (some ⟨g', 0, none⟩) (n + s.size) cap') (n + s.size) (xs ++ Lib.strCells s) → w.grownBy w' (some g) → (g' = g ∨ g' = w.heap.size) → wpList P ops Q rest (a.put o.dst (.slice (some ⟨g', 0, none⟩) (n + s.size) cap')) w') : wpList P ops Q (o :: rest) a w := by
  refine wpList_plain hgd fun K hK => ?_
  obtain ⟨g', cap', w', hr, h2, h3, h4⟩ := run_append_str (P := P) w base t u o.type e i ht hu hi hz hsize hby g n cap xs hown s hlim hbase
  unfold Oper.wp execOp
  simp only [ho, resolve, invoke, builtin, Sem.run_bind, Sem.run_pure, Result.andThen_ok, List.map_toArray, List.map_cons, List.map_nil, hs, hx, hr]
  exact hK _ _ (h g' cap' w' h2 h3 h4)
end
end Go.Proofs.Qxb6613904a
