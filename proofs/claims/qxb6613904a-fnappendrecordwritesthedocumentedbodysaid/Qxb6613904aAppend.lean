/-
  The writers: AppendUvarint, AppendValue, AppendGen, over bytes that the call owns, with the exact frame ('Step').
-/
import Derived.Test.Qxb6613904aBase
import Derived.Test.Qxb6613904aPlain
import Derived.WalkLawsBesides
import Derived.WalkSpells
import Derived.Outline
namespace Go.Proofs.Qxb6613904a
open Go.RowKit
open Go.Lib (uvarint)
set_option linter.unusedVariables false

theorem Try.info5 : (Try.prog.info? 5).map (fun i => (i.zero, i.size, i.bytes)) = some (some (.int .u8 0), 1, 1) := by kernel_rfl

/-- One byte more: the step. -/
theorem push_own {B : Nat} {w w1 : World} {v v1 : Value} {xs : List UInt8} {n H : Nat} {c : Int} (O : Obj) (b : UInt8) (h : w1.ownsRow B 5 1 v1 n (Lib.byteCells xs ++ [.int .u8 c])) (hn : n = xs.length + 1) (hc : c = (b.toNat : Int)) (hg : (w.alloc O).grownBy w1 v.ownBlock) (hat : v1.ownBlock = v.ownBlock ∨ v1.ownBlock = some H) (hH : w.heap.size ≤ H) :
    Own B w1 v1 (xs ++ [b]) ∧ Step w v w1 v1 := by
  subst hn hc
  constructor
  · unfold Own
    rw [List.length_append, List.length_singleton, Lib.byteCells_append]
    exact h
  · have h1 := (Step.refl w v).alloc O
    refine ⟨(h1.trans ⟨hg, .inl rfl⟩ : Step w v w1 v).1, ?_⟩
    rcases hat with e | e
    · exact .inl e
    · exact .inr ⟨_, e, hH⟩

set_option maxRecDepth 100000 in
set_option maxHeartbeats 2000000 in
theorem uvarint_any (B x : Nat) (hx : x < 18446744073709551616) (v : Value) (xs : List UInt8) (w : World) (hown : Own B w v xs) (hBw : B ≤ w.heap.size) (hlim : xs.length + 10 ≤ 140737488355328) :
    Calls Try.prog 23 #[v, .int .u64 x] w fun e w' => ∃ v', e = .returned v' ∧ Own B w' v' (xs ++ uvarint x) ∧ Step w v w' v' := by
  obtain ⟨i0, hi, hz0, hz1, hz2⟩ := info_parts Try.info5
  have hlen := Lib.uvarint_length64 hx
  go_enter Try.func23, Try.ntmps23
  go_wp2
  go_loopw [0, 1] (fun vb vx wr => ∃ (y : Nat) (pre : List UInt8), vx = .int .u64 y ∧ y ≤ x ∧ uvarint x = pre ++ uvarint y ∧ Own B wr vb (xs ++ pre) ∧ Step w v wr vb)
    (fun _ vx _ => (intOf vx).toNat)
  case atStart => exact ⟨x, [], rfl, Nat.le_refl _, rfl, by simpa using hown, Step.refl _ _⟩
  case round =>
    obtain ⟨y, pre, rfl, hy, hsplit, hown1, hst⟩ := hrel
    have hpl : pre.length + (uvarint y).length ≤ 10 := by
      have h2 := congrArg List.length hsplit
      rw [List.length_append] at h2
      omega
    have hyp := Lib.uvarint_pos y
    have hsz := hst.1.size
    have HS : Hid (uvarint x = pre ++ uvarint y) := hsplit
    clear hsplit
    have hm : (xs ++ pre).length + 1 ≤ maxLen := by simp only [List.length_append]; unfold maxLen; omega
    have hb : ((xs ++ pre).length + 1) * 1 ≤ 140737488355328 := by simp only [List.length_append]; omega
    by_cases h128 : 128 ≤ y
    · have hor : bits .or .u8 ((y : Int) % 256) 128 = ((y % 128 + 128 : Nat) : Int) := by
        rw [Lib.u8_or128_any _ (by omega) (by omega)]
        omega
      have hown2 := hown1.alloc (.cells #[Value.int .u8 ((y % 128 + 128 : Nat) : Int)] 5)
      have hbase : B ≤ (wr.alloc (.cells #[Value.int .u8 ((y % 128 + 128 : Nat) : Int)] 5)).heap.size := by simp; omega
      go_wp2_with (at_builtin; refine wpList_append_own_at _ (by rfl) (.tmp 7) (.tmp 11) 22 (by rfl) B 5 i0 (.int .u8 0) 1 1 Try.underlying22 hi hz0 hz1 hz2 (by rfl) (by decide) _ _ _ (by rfl) hown2 ⟨wr.heap.size, 0, none⟩ 1 1 [Value.int .u8 ((y % 128 + 128 : Nat) : Int)] (by rfl) (by rfl) (cell_one_new _ _ _) ?c2 hm hb hbase ?_)
      case c2 => intro u hu; simp at hu; subst hu; rfl
      intro v' w1 hown' hgrow _ hat
      go_wp2
      go_roundw
      case rel =>
        have hp := push_own _ (y % 128 + 128).toUInt8 hown' (by simp) (by simp; omega) hgrow hat (by omega)
        refine ⟨y / 128, pre ++ [(y % 128 + 128).toUInt8], by go_num, by omega, by rw [HS.out, Lib.uvarint_big h128]; simp, ?_, hst.trans hp.2⟩
        rw [← List.append_assoc]
        exact hp.1
      case measure => simp [intOf]; omega
    · have hown2 := hown1.alloc (.cells #[Value.int .u8 (y : Int)] 5)
      have hbase : B ≤ (wr.alloc (.cells #[Value.int .u8 (y : Int)] 5)).heap.size := by simp; omega
      go_wp2_with (at_builtin; refine wpList_append_own_at _ (by rfl) (.tmp 15) (.tmp 18) 22 (by rfl) B 5 i0 (.int .u8 0) 1 1 Try.underlying22 hi hz0 hz1 hz2 (by rfl) (by decide) _ _ _ (by rfl) hown2 ⟨wr.heap.size, 0, none⟩ 1 1 [Value.int .u8 (y : Int)] (by rfl) (by rfl) (cell_one_new _ _ _) ?c2 hm hb hbase ?_)
      case c2 => intro u hu; simp at hu; subst hu; rfl
      intro v' w1 hown' hgrow _ hat
      go_wp2
      go_ret
      have hp := push_own _ y.toUInt8 hown' (by simp) (by simp; omega) hgrow hat (by omega)
      refine ⟨v', rfl, ?_, hst.trans hp.2⟩
      rw [HS.out, Lib.uvarint_small (by omega), ← List.append_assoc]
      exact hp.1

theorem Step.size {w w1 : World} {v v1 : Value} (h : Step w v w1 v1) : w.heap.size ≤ w1.heap.size := h.1.size

set_option maxRecDepth 100000 in
set_option maxHeartbeats 1000000 in
theorem value_any (B : Nat) (s : ByteArray) (v : Value) (xs : List UInt8) (w : World) (hown : Own B w v xs) (hBw : B ≤ w.heap.size) (hlim : xs.length + 10 + s.size ≤ 140737488355328) :
    Calls Try.prog 24 #[v, .string s] w fun e w' => ∃ v', e = .returned v' ∧ Own B w' v' (xs ++ valB s) ∧ Step w v w' v' := by
  obtain ⟨i0, hi, hz0, hz1, hz2⟩ := info_parts Try.info5
  have hx : s.size < 18446744073709551616 := by omega
  have hlen := Lib.uvarint_length64 hx
  have hpos := Lib.uvarint_pos s.size
  go_enter Try.func24, Try.ntmps24
  go_wp2_with fail
  refine (uvarint_any B s.size hx v xs _ hown hBw (by omega)).mono ?_
  rintro e w1 ⟨v1, rfl, ho1, st1⟩
  obtain ⟨ys, hys⟩ : ∃ ys, ys = xs ++ uvarint s.size := ⟨_, rfl⟩
  have hyl : ys.length = xs.length + (uvarint s.size).length := by rw [hys, List.length_append]
  rw [← hys] at ho1
  have HY : Hid (ys = xs ++ uvarint s.size) := hys
  have hy1 : 0 < ys.length := by omega
  have hy2 : ys.length + s.size ≤ 140737488355328 := by omega
  clear hys hyl
  obtain ⟨g, cap, hv, -⟩ := ho1.form hy1
  rw [hv] at ho1 st1 ⊢
  clear hv
  have hB1 : B ≤ w1.heap.size := Nat.le_trans hBw st1.size
  go_wp2_with (first | (refine wpList_append_str _ (by rfl) (.tmp 10) (.tmp 11) 22 9 (by rfl) B 5 i0 Try.underlying22 Try.underlying9 hi hz0 hz1 hz2 g ys.length cap _ (by rfl) ho1 s (by rfl) hy2 hB1 ?_; intro g2 cap2 w2 ho2 hg2 hat2))
  go_ret
  refine ⟨_, rfl, ?_, st1.trans ⟨hg2, ?_⟩⟩
  · show World.ownsRow _ _ _ _ _ _ _
    have e : xs ++ valB s = ys ++ sb s := by rw [HY.out, valB, List.append_assoc]
    rw [e, List.length_append, sb_length, Lib.byteCells_append]
    exact ho2
  · rcases hat2 with e | e
    · exact .inl (by simp [Value.ownBlock, e])
    · exact .inr ⟨g2, by simp [Value.ownBlock], by omega⟩

set_option maxRecDepth 100000 in
set_option maxHeartbeats 1000000 in
theorem gen_any (B c n : Nat) (hc : c < 18446744073709551616) (hn : n < 4294967296) (v : Value) (xs : List UInt8) (w : World) (hown : Own B w v xs) (hBw : B ≤ w.heap.size) (hlim : xs.length + 20 ≤ 140737488355328) :
    Calls Try.prog 25 #[v, .agg #[.int .u64 c, .int .u32 n]] w fun e w' => ∃ v', e = .returned v' ∧ Own B w' v' (xs ++ genB c n) ∧ Step w v w' v' := by
  have hlen := Lib.uvarint_length64 hc
  have hob := hown.alloc (.cells #[.int .u64 c, .int .u32 n] 41)
  have hne : v.ownBlock ≠ some w.heap.size := by
    intro e
    have := (hown.lt _ e).2
    omega
  have hB1 : B ≤ (w.alloc (.cells #[.int .u64 c, .int .u32 n] 41)).heap.size := by simp; omega
  go_enter Try.func25, Try.ntmps25
  go_wp2_with fail
  refine (uvarint_any B c hc v xs _ hob hB1 (by omega)).mono ?_
  rintro e w1 ⟨v1, rfl, ho1, st1⟩
  have hcell : w1.cell? ⟨w.heap.size, 1, none⟩ = some (.int .u32 n) := by
    rw [World.cell?_of_block (st1.1.block w.heap.size (by simp) (fun e => hne e.symm))]
    simp
  have hB2 : B ≤ w1.heap.size := Nat.le_trans hB1 st1.size
  go_wp2_with fail
  refine (uvarint_any B n (by omega) v1 _ _ ho1 hB2 (by simp only [List.length_append]; omega)).mono ?_
  rintro e w2 ⟨v2, rfl, ho2, st2⟩
  go_wp2
  go_ret
  refine ⟨_, rfl, ?_, (((Step.refl w v).alloc _).trans st1).trans st2⟩
  rw [genB, ← List.append_assoc]
  exact ho2
end Go.Proofs.Qxb6613904a
