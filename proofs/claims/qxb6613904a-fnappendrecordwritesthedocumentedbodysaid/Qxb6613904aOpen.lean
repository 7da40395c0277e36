/-
  A record that came in, opened: fourteen cells.
-/
import Derived.Test.Qxb6613904aZz
import Derived.ProofKit
import Derived.OpenShut
namespace Go.Proofs.Qxb6613904a
open Go.ChangeShapes Go.WideShapes Go.ChangeAt Go.RowKit
set_option linter.unusedVariables false

section
variable {H : Type} {enc : TypeId × Value → H} {P : Program} {w : World} {base : Nat} {spare : Nat → Bool} {held : Bool}

/-- Each field of a struct that is read is read. -/
theorem field_some {t c : TypeId} {o k : Nat} {fs : Array Field} {fuel : Nat} {cs : List Value} {x : DataW H × List MemPlace} (ht : P.underlying t = some (.struct fs)) (h : DataW.trod enc P w base spare held fuel t cs = some x)
    (i : Nat) (hf : (fs[i]?).map (fun f => (f.type, f.offset)) = some (c, o)) (hk : P.cellsOf c = k) : ∃ n y, DataW.trod enc P w base spare held n c ((cs.drop o).take k) = some y := by
  obtain ⟨xs, n, _, _, _, hxl, hfs⟩ := DataW.trod_struct ht h
  obtain ⟨f, hfi, he⟩ := Option.map_eq_some_iff.1 hf
  simp only [Prod.mk.injEq] at he
  obtain ⟨rfl, rfl⟩ := he
  have hlt : i < fs.size := (Array.getElem?_eq_some_iff.1 hfi).1
  have hx := hfs i f hfi
  rw [hk, List.getElem?_eq_getElem (by omega)] at hx
  exact ⟨n, _, hx⟩
theorem nat_u64 {t : TypeId} {n : Nat} {c : Value} {y : DataW H × List MemPlace} (ht : P.underlying t = some (.int .u64)) (h : DataW.trod enc P w base spare held n t [c] = some y) : ∃ k : Nat, c = .int .u64 k ∧ k < 18446744073709551616 := by
  obtain ⟨z, e, _, hw⟩ := DataW.trod_int ht h
  have hb := bounds_u64 hw
  simp only [List.cons.injEq, and_true] at e
  exact ⟨z.toNat, by rw [e, Int.toNat_of_nonneg hb.1], by omega⟩
theorem nat_u32 {t : TypeId} {n : Nat} {c : Value} {y : DataW H × List MemPlace} (ht : P.underlying t = some (.int .u32)) (h : DataW.trod enc P w base spare held n t [c] = some y) : ∃ k : Nat, c = .int .u32 k ∧ k < 4294967296 := by
  obtain ⟨z, e, _, hw⟩ := DataW.trod_int ht h
  have hb := bounds_u32 hw
  simp only [List.cons.injEq, and_true] at e
  exact ⟨z.toNat, by rw [e, Int.toNat_of_nonneg hb.1], by omega⟩
theorem str_of {t : TypeId} {n : Nat} {c : Value} {y : DataW H × List MemPlace} (ht : P.underlying t = some .string) (h : DataW.trod enc P w base spare held n t [c] = some y) : ∃ s : ByteArray, c = .string s ∧ s.size ≤ maxLen := by
  obtain ⟨s, e, _, hw⟩ := DataW.trod_string ht h
  simp only [List.cons.injEq, and_true] at e
  exact ⟨s, e, hw⟩
theorem bool_of {t : TypeId} {n : Nat} {c : Value} {y : DataW H × List MemPlace} (ht : P.underlying t = some .bool) (h : DataW.trod enc P w base spare held n t [c] = some y) : ∃ b : Bool, c = .bool b := by
  obtain ⟨b, e, _⟩ := DataW.trod_bool ht h
  simp only [List.cons.injEq, and_true] at e
  exact ⟨b, e⟩
end

theorem Try.cells32 : Try.prog.cellsOf 32 = 14 := by kernel_rfl
theorem Try.cells28 : Try.prog.cellsOf 28 = 8 := by kernel_rfl
theorem Try.cells30 : Try.prog.cellsOf 30 = 3 := by kernel_rfl
theorem Try.cells26 : Try.prog.cellsOf 26 = 2 := by kernel_rfl
theorem Try.cells23 : Try.prog.cellsOf 23 = 1 := by kernel_rfl
theorem Try.cells24 : Try.prog.cellsOf 24 = 1 := by kernel_rfl
theorem Try.cells9 : Try.prog.cellsOf 9 = 1 := by kernel_rfl
theorem Try.cells4 : Try.prog.cellsOf 4 = 1 := by kernel_rfl

theorem open32 {H : Type} {enc : TypeId × Value → H} {w : World} {b base : Nat} {spare : Nat → Bool} {held : Bool} {v : Value} {d : DataW H} {p : List MemPlace}
    (hv : Value.okWide Try.prog w .any b 32 v) (h : DataW.Trod enc Try.prog w base spare held 32 v d p) :
    ∃ (slot pC pN aC aN : Nat) (av ld : ByteArray) (hl : Bool) (seen lC lN lS start : Nat) (mem : ByteArray), v = .agg (cells14 slot pC pN aC aN av ld hl seen lC lN lS start mem) ∧
      Fits ⟨slot, pC, pN, aC, aN, av, ld, hl, seen, lC, lN, lS, start, mem⟩ ∧ av.size ≤ maxLen ∧ ld.size ≤ maxLen ∧ mem.size ≤ maxLen := by
  obtain ⟨cs, rfl, hsz⟩ := okWide_struct Try.underlying32 hv
  rw [Try.cells32] at hsz
  obtain ⟨fuel, hf⟩ := h
  obtain ⟨l, rfl⟩ : ∃ l : List Value, cs = l.toArray := ⟨cs.toList, by simp⟩
  have hl : l.length = 14 := by simpa using hsz
  have hf' : DataW.trod enc Try.prog w base spare held fuel 32 l = some (d, p) := by simpa [Value.cells] using hf
  clear hf hsz hv
  match l, hl with
  | [c0, c1, c2, c3, c4, c5, c6, c7, c8, c9, c10, c11, c12, c13], _ =>
    obtain ⟨_, _, t0⟩ := field_some Try.underlying32 hf' 0 (c := 23) (o := 0) rfl Try.cells23
    obtain ⟨_, _, t1⟩ := field_some Try.underlying32 hf' 1 (c := 28) (o := 1) rfl Try.cells28
    obtain ⟨_, _, t2⟩ := field_some Try.underlying32 hf' 2 (c := 30) (o := 9) rfl Try.cells30
    obtain ⟨_, _, t3⟩ := field_some Try.underlying32 hf' 3 (c := 23) (o := 12) rfl Try.cells23
    obtain ⟨_, _, t4⟩ := field_some Try.underlying32 hf' 4 (c := 9) (o := 13) rfl Try.cells9
    simp only [List.drop_zero, List.drop_succ_cons, List.take_succ_cons, List.take_zero] at t0 t1 t2 t3 t4
    obtain ⟨_, _, s0⟩ := field_some Try.underlying28 t1 0 (c := 26) (o := 0) rfl Try.cells26
    obtain ⟨_, _, s1⟩ := field_some Try.underlying28 t1 1 (c := 26) (o := 2) rfl Try.cells26
    obtain ⟨_, _, s2⟩ := field_some Try.underlying28 t1 2 (c := 9) (o := 4) rfl Try.cells9
    obtain ⟨_, _, s3⟩ := field_some Try.underlying28 t1 3 (c := 9) (o := 5) rfl Try.cells9
    obtain ⟨_, _, s4⟩ := field_some Try.underlying28 t1 4 (c := 4) (o := 6) rfl Try.cells4
    obtain ⟨_, _, s5⟩ := field_some Try.underlying28 t1 5 (c := 23) (o := 7) rfl Try.cells23
    obtain ⟨_, _, u0⟩ := field_some Try.underlying30 t2 0 (c := 26) (o := 0) rfl Try.cells26
    obtain ⟨_, _, u1⟩ := field_some Try.underlying30 t2 1 (c := 23) (o := 2) rfl Try.cells23
    simp only [List.drop_zero, List.drop_succ_cons, List.take_succ_cons, List.take_zero] at s0 s1 s2 s3 s4 s5 u0 u1
    obtain ⟨_, _, g0⟩ := field_some Try.underlying26 s0 0 (c := 23) (o := 0) rfl Try.cells23
    obtain ⟨_, _, g1⟩ := field_some Try.underlying26 s0 1 (c := 24) (o := 1) rfl Try.cells24
    obtain ⟨_, _, g2⟩ := field_some Try.underlying26 s1 0 (c := 23) (o := 0) rfl Try.cells23
    obtain ⟨_, _, g3⟩ := field_some Try.underlying26 s1 1 (c := 24) (o := 1) rfl Try.cells24
    obtain ⟨_, _, g4⟩ := field_some Try.underlying26 u0 0 (c := 23) (o := 0) rfl Try.cells23
    obtain ⟨_, _, g5⟩ := field_some Try.underlying26 u0 1 (c := 24) (o := 1) rfl Try.cells24
    simp only [List.drop_zero, List.drop_succ_cons, List.take_succ_cons, List.take_zero] at g0 g1 g2 g3 g4 g5
    obtain ⟨slot, rfl, f0⟩ := nat_u64 Try.underlying23 t0
    obtain ⟨pC, rfl, f1⟩ := nat_u64 Try.underlying23 g0
    obtain ⟨pN, rfl, f2⟩ := nat_u32 Try.underlying24 g1
    obtain ⟨aC, rfl, f3⟩ := nat_u64 Try.underlying23 g2
    obtain ⟨aN, rfl, f4⟩ := nat_u32 Try.underlying24 g3
    obtain ⟨av, rfl, f5⟩ := str_of Try.underlying9 s2
    obtain ⟨ld, rfl, f6⟩ := str_of Try.underlying9 s3
    obtain ⟨hl, rfl⟩ := bool_of Try.underlying4 s4
    obtain ⟨seen, rfl, f8⟩ := nat_u64 Try.underlying23 s5
    obtain ⟨lC, rfl, f9⟩ := nat_u64 Try.underlying23 g4
    obtain ⟨lN, rfl, f10⟩ := nat_u32 Try.underlying24 g5
    obtain ⟨lS, rfl, f11⟩ := nat_u64 Try.underlying23 u1
    obtain ⟨start, rfl, f12⟩ := nat_u64 Try.underlying23 t3
    obtain ⟨mem, rfl, f13⟩ := str_of Try.underlying9 t4
    exact ⟨slot, pC, pN, aC, aN, av, ld, hl, seen, lC, lN, lS, start, mem, rfl, ⟨f0, f1, f2, f3, f4, f8, f9, f10, f11, f12⟩, f5, f6, f13⟩
end Go.Proofs.Qxb6613904a
