/-
  The readers: zzReadUvarint, zzExpectUvarint, zzExpectValue, zzExpectGen, on bytes that hold what is expected.
-/
import Derived.Test.Qxb6613904aSame
import Derived.Laws.Bits64b
namespace Go.Proofs.Qxb6613904a
open Go.RowKit
open Go.Lib (uvarint)
set_option linter.unusedVariables false

theorem mask127 {c : Int} (h₀ : 0 ≤ c) (h₁ : c ≤ 255) : bits .and .u8 c 127 = c % 128 := bits_mask .u8 8 (by decide) wraps_u8 7 (by decide) c h₀ (by omega)

theorem or_step (V c k : Nat) (hV : V < 2 ^ (7 * k)) (hfit : V + c % 128 * 2 ^ (7 * k) < 18446744073709551616) :
    bits .or .u64 (V : Int) (IntKind.u64.wrap ((c : Int) % 128 * 2 ^ (7 * k))) = ((V + c % 128 * 2 ^ (7 * k) : Nat) : Int) := by
  have e : ((c : Int) % 128 * 2 ^ (7 * k)) = ((c % 128 * 2 ^ (7 * k) : Nat) : Int) := by simp
  rw [e, IntWalk.u64_in _ ⟨by omega, by omega⟩, bits_or_u64_nat _ _ (by omega) (by omega)]
  have h := Nat.two_pow_add_eq_or_of_lt hV (c % 128)
  rw [Nat.or_comm, Nat.mul_comm (c % 128), ← h, Nat.add_comm]
theorem pow_next (k : Nat) : 2 ^ (7 * (k + 1)) = 128 * 2 ^ (7 * k) := by
  rw [Nat.mul_add, Nat.pow_add, Nat.mul_comm]
theorem split128 (y P : Nat) : y * P = y % 128 * P + y / 128 * (128 * P) := by
  have h : y * P = (y % 128 + 128 * (y / 128)) * P := by rw [Nat.mod_add_div]
  rw [h, Nat.add_mul, Nat.mul_comm 128 (y / 128), Nat.mul_assoc]
/-- A byte that goes on. -/
theorem uv_more {x V y k c : Nat} (hx : x < 18446744073709551616) (hX : x = V + y * 2 ^ (7 * k)) (hV : V < 2 ^ (7 * k)) (hc : c = y % 128 + 128) :
    bits .or .u64 (V : Int) (IntKind.u64.wrap ((c : Int) % 128 * 2 ^ (7 * k))) = ((V + c % 128 * 2 ^ (7 * k) : Nat) : Int) ∧ x = (V + c % 128 * 2 ^ (7 * k)) + y / 128 * 2 ^ (7 * (k + 1)) ∧ V + c % 128 * 2 ^ (7 * k) < 2 ^ (7 * (k + 1)) := by
  have hm : c % 128 = y % 128 := by omega
  have hs := split128 y (2 ^ (7 * k))
  have hle : y % 128 * 2 ^ (7 * k) ≤ 127 * 2 ^ (7 * k) := Nat.mul_le_mul_right _ (by omega)
  rw [pow_next]
  refine ⟨or_step V c k hV (by rw [hm]; omega), ?_, ?_⟩
  · rw [hm]; omega
  · rw [hm]; omega
/-- The last byte. -/
theorem uv_last {x V y k : Nat} (hx : x < 18446744073709551616) (hX : x = V + y * 2 ^ (7 * k)) (hV : V < 2 ^ (7 * k)) (hy : y < 128) :
    bits .or .u64 (V : Int) (IntKind.u64.wrap ((y : Int) % 128 * 2 ^ (7 * k))) = (x : Int) := by
  have hm : y % 128 = y := by omega
  rw [or_step V y k hV (by rw [hm]; omega), hm]
  omega

theorem ret3 {A X B N : Int} (h1 : A = X) (h2 : B = N) : Ending.returned (.tuple #[.int .u64 A, .int .i64 B, .bool true]) = .returned (.tuple #[.int .u64 X, .int .i64 N, .bool true]) := by rw [h1, h2]

theorem w0 (y : Nat) : IntKind.u64.wrap ((y : Int) % 128 * 2 ^ (7 * 0)) = (y : Int) % 128 := by
  rw [IntWalk.u64_in _ ⟨by simp; omega, by simp; omega⟩]; simp
theorem w9 (y : Nat) (h : y ≤ 1) : IntKind.u64.wrap ((y : Int) % 128 * 2 ^ (7 * 9)) = (y : Int) % 128 * 9223372036854775808 := by
  have e : (2 : Int) ^ (7 * 9) = 9223372036854775808 := by decide
  rw [e, IntWalk.u64_in _ ⟨by omega, by omega⟩]

/-- Seg, taken apart, at one place. -/
theorem Seg.at {w : World} {v : Value} {xs : List UInt8} (h : Seg w v xs) : ∃ g off cap, v = .slice (some ⟨g, off, none⟩) xs.length cap ∧ g < w.heap.size ∧ xs.length ≤ 9223372036854775807 ∧ ∀ pre b post, xs = pre ++ b :: post → w.cell? ⟨g, off + pre.length, none⟩ = some (.int .u8 b.toNat) := by
  obtain ⟨g, off, cap, hv, hg, hl, hc⟩ := h
  refine ⟨g, off, cap, hv, hg, hl, fun pre b post e => ?_⟩
  have hlt : pre.length < xs.length := by rw [e]; simp
  have := hc pre.length hlt
  rw [this]
  congr 3
  subst e
  simp

set_option maxRecDepth 100000 in
set_option maxHeartbeats 4000000 in
theorem readuv_any (v : Value) (L pre post : List UInt8) (x : Nat) (hx : x < 18446744073709551616) (w : World) (hs : Seg w v L) (hL : L = pre ++ (uvarint x ++ post)) :
    Calls Try.prog 22 #[v, .int .i64 pre.length] w fun e w' => e = .returned (.tuple #[.int .u64 x, .int .i64 ((pre.length + (uvarint x).length : Nat) : Int), .bool true]) ∧ w' = w := by
  obtain ⟨g, off, cap, rfl, hg, hl, hc⟩ := hs.at
  have hux := Lib.uvarint_pos x
  have hul := Lib.uvarint_length64 hx
  have HL0 : Hid (L = pre ++ (uvarint x ++ post)) := hL
  have hll : L.length = pre.length + ((uvarint x).length + post.length) := by rw [hL]; simp
  clear hL hs
  go_enter Try.func22, Try.ntmps22
  go_wp2
  go_loop [1, 7, 8, 9] (fun vi vv vs vk => ∃ (k y V : Nat) (pre' : List UInt8), k ≤ 9 ∧ vk = .int .i64 k ∧ vs = .int .u64 ((7 * k : Nat) : Int) ∧ vv = .int .u64 V ∧ vi = .int .i64 pre'.length ∧ Hid (L = pre' ++ (uvarint y ++ post)) ∧ Hid (x = V + y * 2 ^ (7 * k)) ∧ Hid (V < 2 ^ (7 * k)) ∧ (0 < k → 0 < y) ∧ pre'.length + (uvarint y).length = pre.length + (uvarint x).length)
    (fun _ _ _ vk => 10 - (intOf vk).toNat)
  case atStart => exact ⟨0, x, 0, pre, by omega, rfl, rfl, rfl, rfl, HL0, (by simp : x = 0 + x * 2 ^ (7 * 0)), (by decide : 0 < 2 ^ (7 * 0)), by omega, rfl⟩
  case round =>
    obtain ⟨k, y, V, pre', hk, rfl, rfl, rfl, rfl, HL, HX, HV, hky, hlen⟩ := hrel
    have hyp := Lib.uvarint_pos y
    have hlt : pre'.length < L.length := by omega
    have HN : Hid (pre'.length + (uvarint y).length = pre.length + (uvarint x).length) := hlen
    have HLL : Hid (L.length = pre.length + ((uvarint x).length + post.length)) := hll
    clear hlen hll
    by_cases h128 : 128 ≤ y
    · have hcell : w.cell? ⟨g, off + pre'.length, none⟩ = some (.int .u8 ((y % 128 + 128 : Nat) : Int)) := by
        have := hc pre' (y % 128 + 128).toUInt8 (uvarint (y / 128) ++ post) (by rw [HL.out, Lib.uvarint_big h128]; rfl)
        rw [this]
        congr 2
        simp; omega
      obtain ⟨c, hcc⟩ : ∃ c : Nat, c = y % 128 + 128 := ⟨_, rfl⟩
      rw [← hcc] at hcell
      have hc1 : 128 ≤ c := by omega
      have hc2 : c ≤ 255 := by omega
      have HC : Hid (c = y % 128 + 128) := hcc
      have hmask := mask127 (c := (c : Int)) (by omega) (by omega)
      have hk9 : k ≠ 9 := by
        rintro rfl
        have h1 := HX.out
        have : y * 2 ^ (7 * 9) ≤ x := by omega
        have : 128 * 2 ^ (7 * 9) ≤ y * 2 ^ (7 * 9) := Nat.mul_le_mul_right _ h128
        simp at this
        omega
      clear hcc hc
      have hk9' : ((k : Int) == 9) = false := by simp; omega
      go_wp2
      have hst := uv_more hx HX.out HV.out HC.out
      go_round
      case rel =>
        have hn := HN.out
        have e := congrArg List.length (Lib.uvarint_big h128)
        rw [List.length_cons] at e
        refine ⟨k + 1, y / 128, V + c % 128 * 2 ^ (7 * k), pre' ++ [(y % 128 + 128).toUInt8], by omega, by go_num, by go_num, by rw [hst.1], by simp, ?_, hst.2.1, hst.2.2, by omega, by simp only [List.length_append, List.length_singleton]; omega⟩
        show L = _
        rw [HL.out, Lib.uvarint_big h128]
        simp
      case measure => simp [intOf]; omega
    · have hcell : w.cell? ⟨g, off + pre'.length, none⟩ = some (.int .u8 (y : Int)) := by
        have := hc pre' y.toUInt8 post (by rw [HL.out, Lib.uvarint_small (by omega)]; rfl)
        rw [this]
        congr 2
        simp; omega
      have hmask := mask127 (c := (y : Int)) (by omega) (by omega)
      have hk9 : k = 9 → y ≤ 1 := by
        rintro rfl
        have h1 := HX.out
        have : y * 2 ^ (7 * 9) ≤ x := by omega
        simp at this
        omega
      have hr := uv_last hx HX.out HV.out (by omega)
      have HR : Hid (bits .or .u64 (V : Int) (IntKind.u64.wrap ((y : Int) % 128 * 2 ^ (7 * k))) = (x : Int)) := hr
      have hful : pre'.length + 1 = pre.length + (uvarint x).length := by
        have e := congrArg List.length (Lib.uvarint_small (by omega : y < 128))
        rw [List.length_singleton] at e
        have := HN.out
        omega
      have HF : Hid (pre'.length + 1 = pre.length + (uvarint x).length) := hful
      clear hr hful hc
      by_cases h0 : k = 0
      · subst h0
        go_wp2
        go_ret3
        refine ⟨ret3 ?_ ?_, rfl⟩
        · rw [← HR.out, w0 y]
        · have := HF.out; omega
      · have hy0 := hky (by omega)
        by_cases h9 : k = 9
        · have hy1 := hk9 h9
          subst h9
          go_wp2
          go_ret3
          refine ⟨ret3 ?_ ?_, rfl⟩
          · rw [← HR.out, w9 y hy1]
          · have := HF.out; omega
        · have hk9' : ((k : Int) == 9) = false := by simp; omega
          go_wp2
          go_ret3
          refine ⟨ret3 ?_ ?_, rfl⟩
          · rw [← HR.out]
          · have := HF.out; omega

theorem ret2 {B N : Int} {b : Bool} (h2 : B = N) (h : b = true) : Ending.returned (.tuple #[.int .i64 B, .bool b]) = .returned (.tuple #[.int .i64 N, .bool true]) := by rw [h2, h]

set_option maxRecDepth 100000 in
set_option maxHeartbeats 1000000 in
theorem expuv_any (v : Value) (L pre post : List UInt8) (x : Nat) (hx : x < 18446744073709551616) (w : World) (hs : Seg w v L) (hL : L = pre ++ (uvarint x ++ post)) :
    Calls Try.prog 15 #[v, .int .i64 pre.length, .int .u64 x] w fun e w' => e = .returned (.tuple #[.int .i64 ((pre.length + (uvarint x).length : Nat) : Int), .bool true]) ∧ w = w' := by
  have c := readuv_any v L pre post x hx w hs hL
  clear hL hs
  obtain ⟨N, hN⟩ : ∃ N, N = pre.length + (uvarint x).length := ⟨_, rfl⟩
  rw [← hN] at c ⊢
  clear hN
  go_enter Try.func15, Try.ntmps15
  go_wp2_with fail
  refine c.mono ?_
  rintro e w' ⟨rfl, rfl⟩
  go_wp2
  go_ret2
  exact ⟨ret2 rfl (by simp), rfl⟩

set_option maxRecDepth 100000 in
set_option maxHeartbeats 1000000 in
theorem expgen_any (v : Value) (L pre post : List UInt8) (c n : Nat) (hc : c < 18446744073709551616) (hn : n < 4294967296) (w : World) (hs : Seg w v L) (hL : L = pre ++ (genB c n ++ post)) :
    Calls Try.prog 17 #[v, .int .i64 pre.length, .agg #[.int .u64 c, .int .u32 n]] w fun e w' => e = .returned (.tuple #[.int .i64 ((pre.length + (genB c n).length : Nat) : Int), .bool true]) ∧ Below w.heap.size w w' := by
  have hb : Below w.heap.size w (w.alloc (.cells #[.int .u64 c, .int .u32 n] 26)) := (Below.refl _ _).alloc (Nat.le_refl _) _
  have hs' := hs.below hb
  have c1 := expuv_any v L pre (uvarint n ++ post) c hc _ hs' (by rw [hL, genB, List.append_assoc])
  have c2 := expuv_any v L (pre ++ uvarint c) post n (by omega) _ hs' (by rw [hL, genB, List.append_assoc, List.append_assoc])
  rw [List.length_append] at c2
  have e : pre.length + (genB c n).length = pre.length + (uvarint c).length + (uvarint n).length := by rw [genB, List.length_append]; omega
  rw [e]
  clear hL hs hs' e
  obtain ⟨N, hN⟩ : ∃ N, N = pre.length + (uvarint c).length := ⟨_, rfl⟩
  rw [← hN] at c1 c2 ⊢
  clear hN
  go_enter Try.func17, Try.ntmps17
  go_wp2_with fail
  refine c1.mono ?_
  rintro e w' ⟨rfl, rfl⟩
  go_wp2_with fail
  refine c2.mono ?_
  rintro e w' ⟨rfl, rfl⟩
  go_wp2
  go_ret2
  exact ⟨ret2 rfl rfl, hb⟩

set_option maxRecDepth 100000 in
set_option maxHeartbeats 2000000 in
theorem expval_any (v : Value) (L pre post : List UInt8) (s : ByteArray) (hsz : s.size ≤ 1048576) (w : World) (hs : Seg w v L) (hL : L = pre ++ (valB s ++ post)) :
    Calls Try.prog 16 #[v, .int .i64 pre.length, .string s] w fun e w' => e = .returned (.tuple #[.int .i64 ((pre.length + (valB s).length : Nat) : Int), .bool true]) ∧ Below w.heap.size w w' := by
  have hL' : L = pre ++ (uvarint s.size ++ (sb s ++ post)) := by rw [hL, valB, List.append_assoc]
  have c1 := expuv_any v L pre (sb s ++ post) s.size (by omega) w hs hL'
  have e : pre.length + (valB s).length = pre.length + (uvarint s.size).length + s.size := by rw [valB, List.length_append, sb_length]; omega
  rw [e]
  obtain ⟨N, hN⟩ : ∃ N, N = pre.length + (uvarint s.size).length := ⟨_, rfl⟩
  rw [← hN] at c1 ⊢
  obtain ⟨g, off, cap, rfl, hg, hl, hc⟩ := hs
  have hLl : L.length = N + s.size + post.length := by rw [hL', hN]; simp only [List.length_append, sb_length]; omega
  have hcs : ∀ k (hk : k < s.size), w.cell? ⟨g, off + (N + k), none⟩ = some (.int .u8 (s[k].toNat)) := by
    intro k hk
    have hlt : N + k < L.length := by omega
    have e2 : L[N + k] = s[k] := by
      have e3 : L = (pre ++ uvarint s.size) ++ (sb s ++ post) := by rw [hL', List.append_assoc]
      have hk' : k < (sb s).length := by rw [sb_length]; exact hk
      have e4 : L[N + k]? = some s[k] := by
        rw [e3, List.getElem?_append_right (by rw [List.length_append]; omega), List.length_append]
        have e5 : N + k - (pre.length + (uvarint s.size).length) = k := by omega
        rw [e5, List.getElem?_append_left hk', List.getElem?_eq_getElem hk']
        rfl
      rw [List.getElem?_eq_getElem hlt] at e4
      exact Option.some.inj e4
    rw [hc (N + k) hlt, e2]
  clear hN hL' hL hc e
  have hN1 : N + s.size ≤ L.length := by omega
  clear hLl
  go_enter Try.func16, Try.ntmps16
  go_wp2_with fail
  refine c1.mono ?_
  rintro e w' ⟨rfl, rfl⟩
  go_wp2
  go_loopw [10] (fun i wr => ∃ k : Nat, k ≤ s.size ∧ i = .int .i64 k ∧ Below w.heap.size w wr) (fun i _ => s.size - (intOf i).toNat)
  case atStart => exact ⟨0, Nat.zero_le _, rfl, Below.refl _ _⟩
  case round =>
    obtain ⟨k, hk, rfl, hbr⟩ := hrel
    by_cases hlt : k < s.size
    · have hcell : wr.cell? ⟨g, off + (N + k), none⟩ = some (.int .u8 (s[k].toNat)) := (hbr.cell (p := ⟨g, off + (N + k), none⟩) hg).trans (hcs k hlt)
      clear hcs
      have z1 : (0 : Int) ≤ (k : Int) := by omega
      have z2 : (k : Int) < (s.size : Int) := by omega
      have z3 : (N : Int) + (k : Int) < (L.length : Int) := by omega
      have z4 : (0 : Int) ≤ (N : Int) + (k : Int) := by omega
      go_wp2
      go_quiet (fail)
      go_wp2
      go_roundw
      case rel => exact ⟨k + 1, by omega, by go_num, below_drewN hbr nq⟩
      case measure => simp [intOf]; omega
    · go_wp2
      go_ret2
      exact ⟨ret2 (by omega) rfl, hbr⟩
end Go.Proofs.Qxb6613904a
