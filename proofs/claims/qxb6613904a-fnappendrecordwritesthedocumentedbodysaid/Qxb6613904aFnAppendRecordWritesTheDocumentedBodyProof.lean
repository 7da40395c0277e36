/-
  THE PROOF OF 'Rows.FnAppendRecordWritesTheDocumentedBodySaid': the frame as the kit's shells have it; the bytes opened by 'open_ints', the record by 'open32'.
-/
import Derived.Test.Qxb6613904aWrites
import Derived.Test.Qxb6613904aOpen
import Derived.ShutString
import Derived.ChangeOld
namespace Go.Proofs.Qxb6613904a.fnAppendRecordWritesTheDocumentedBody
open Go.ChangeShapes Go.WideShapes Go.ChangeAt Go.RowKit
set_option linter.unusedVariables false

theorem own : ownKnob Try.prog.godebug = none := by kernel_rfl
theorem laidOut : laidOutB Try.prog = true := by kernel_rfl

/-- Numbers that fit a byte, as bytes. -/
def toBytes (zs : List Int) : List UInt8 := zs.map fun z => z.toNat.toUInt8
theorem toBytes_at {zs : List Int} {len : Nat} (hl : len ≤ zs.length) (hw : ∀ n ∈ zs, (Lit.int .u8 n).wf = true) (j : Nat) (hj : j < (toBytes (zs.take len)).length) : (((toBytes (zs.take len))[j].toNat : Nat) : Int) = zs.getD j 0 := by
  have hj' : j < len := by simp [toBytes] at hj; omega
  have hjz : j < zs.length := by omega
  have hb := bounds_u8 (hw zs[j] (List.getElem_mem hjz))
  have e : zs.getD j 0 = zs[j] := by simp [hjz]
  rw [e]
  simp only [toBytes, List.getElem_map, List.getElem_take]
  simp
  omega

theorem openBytes {H : Type} {enc : TypeId × Value → H} {W : World} {fuel : Nat} {a : Option Addr} {len cap : Nat} {x : DataW H × List MemPlace}
    (h : DataW.trod enc Try.prog W 0 (fun _ => true) true fuel 22 [.slice a len cap] = some x) : ∃ xs : List UInt8, len = xs.length ∧ Byt W (.slice a len cap) xs ∧ len ≤ maxLen := by
  rcases open_ints Try.underlying22 Try.underlying5 (by kernel_rfl) h with ⟨hcs, _⟩ | ⟨ad, l, c, zs, hcs, _, hl, hm, hz, _, hcell, hwz⟩
  · simp only [List.cons.injEq, Value.slice.injEq, and_true] at hcs
    obtain ⟨rfl, rfl, rfl⟩ := hcs
    exact ⟨[], rfl, .inl ⟨rfl, rfl⟩, by simp⟩
  · simp only [List.cons.injEq, Value.slice.injEq, and_true] at hcs
    obtain ⟨rfl, rfl, rfl⟩ := hcs
    have hzl : zs.length = cap := by simpa using hz
    have hlen : (toBytes (zs.take len)).length = len := by simp [toBytes]; omega
    refine ⟨toBytes (zs.take len), hlen.symm, .inr ⟨ad, cap, by rw [hlen], fun j hj => ?_⟩, by omega⟩
    rw [toBytes_at (by omega) hwz j hj]
    exact hcell j (by omega)

set_option maxRecDepth 100000 in
theorem lifted (os : Os) (started : os.Started) (H : Type) (enc : TypeId × Value → H) :
    ReturnsInHanded {} Try.checked os 3 .any (Rows.fnAppendRecordWritesTheDocumentedBodySpec.pre6 enc Try.prog Try.f3 Rows.fnAppendRecordWritesTheDocumentedBodyRow.domain false) (Rows.fnAppendRecordWritesTheDocumentedBodySpec.post enc Try.prog Try.f3 false true false false) := by
  refine returnsInHanded_of_change (C := Try.checked) own started (by kernel_rfl) Try.func3
    (ChangeSpec.witness6 (enc := enc) (C := Try.checked) false ⟨#[], #[.slice none 0 0, .agg (cells14 0 0 0 0 0 ByteArray.empty ByteArray.empty false 0 0 0 0 0 ByteArray.empty)], []⟩ 8 (by kernel_rfl) (by kernel_rfl) (by kernel_rfl) (by kernel_rfl)) ?_
  intro W base args ds gs before hval0 hW hcnd _
  have hval : ∀ (j : Nat) t v, Try.f3.params[j]? = some t → args[j]? = some v → Value.okWide Try.prog W .any base t v := hval0
  have hW' := hW
  obtain ⟨p, q, hA0, hV, rfl, hfz, hnd⟩ := hW
  have hA : DataW.TrodAll enc Try.prog W 0 (fun _ => true) true Try.f3.params.toList args.toList ds p := hA0
  rw [Try.params3] at hA hval
  obtain ⟨v0, vs0, d0, ds0, p0, q0, hargs, rfl, rfl, h0, r0⟩ := trodAll_cons hA
  obtain ⟨v1, vs1, d1, ds1, p1, q1, rfl, rfl, rfl, h1, r1⟩ := trodAll_cons r0
  obtain ⟨rfl, rfl, rfl⟩ := trodAll_nil r1
  obtain rfl : args = #[v0, v1] := by cases args; simp_all
  obtain ⟨rfl, rfl⟩ := trodVars_none hV
  have k0 := h0
  have lt0 : ∀ x ∈ p0, x.block < W.heap.size := by obtain ⟨m, hm⟩ := k0; exact DataW.trod_lt m _ _ _ hm
  have k1 := h1
  have lt1 : ∀ x ∈ p1, x.block < W.heap.size := by obtain ⟨m, hm⟩ := k1; exact DataW.trod_lt m _ _ _ hm
  obtain ⟨a, len, cap, rfl⟩ := okWide_slice Try.underlying22 (hval 0 22 v0 rfl rfl)
  obtain ⟨xs, hlen, hbuf, hlm⟩ : ∃ xs : List UInt8, len = xs.length ∧ Byt W (.slice a len cap) xs ∧ len ≤ maxLen := by
    obtain ⟨fuel, hf⟩ := h0
    exact openBytes (by simpa [Value.cells] using hf)
  obtain ⟨slot, pC, pN, aC, aN, av, ld, hl, seen, lC, lN, lS, start, mem, rfl, hf, z1, z2, z3⟩ := open32 (hval 1 32 v1 rfl rfl) h1
  clear hA0 hval0
  refine (Writes.walk a len cap xs slot pC pN aC aN av ld hl seen lC lN lS start mem W hlen hbuf hf hlm z3 z1 z2).mono fun e W' ⟨he, bel⟩ => ?_
  subst he
  exact ⟨_, rfl, _, _, _, [], _, [], hW', trodAll_mk1 (shut_bool Try.underlying4 _), (trodAll_cons_mk (Below.trod laidOut (by kernel_rfl) (of_decide_eq_true (by kernel_rfl)) k0 bel lt0) (trodAll_cons_mk (Below.trod laidOut (by kernel_rfl) (of_decide_eq_true (by kernel_rfl)) k1 bel lt1) trodAll_mk0)), rfl, bel.frame _, fun h => by cases h⟩

theorem over : Rows.fnAppendRecordWritesTheDocumentedBodyRow.holds Try.pinned (OpenSpec.ofChange Rows.fnAppendRecordWritesTheDocumentedBodySpec) :=
  OpenClaim.holds_of_wide 3 Try.f3 rfl rfl rfl rfl rfl rfl rfl ⟨rfl, rfl, rfl, rfl, rfl⟩ rfl rfl rfl rfl rfl (by kernel_rfl) Try.func3 (by kernel_rfl)
    (of_decide_eq_true (by kernel_rfl)) (by unfold Func.isWrapper; first | (rw [if_pos (by decide +kernel)]; kernel_rfl) | (rw [if_neg (by decide +kernel)]; exact ⟨rfl, rfl⟩))
    (fun os started H enc _ => lifted os started H enc)

/-- ████ THE STATEMENT ████ -/
theorem proved : Rows.FnAppendRecordWritesTheDocumentedBodySaid := over
end Go.Proofs.Qxb6613904a.fnAppendRecordWritesTheDocumentedBody
