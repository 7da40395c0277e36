/-
  The plain side: the body of a record as a list of bytes; that it tells records apart. No program, no world.
-/
import Derived.Lib.Varint
namespace Go.Proofs.Qxb6613904a
open Go.Lib (uvarint)
set_option linter.unusedVariables false

/-- A string's bytes. -/
def sb (s : ByteArray) : List UInt8 := s.data.toList
def genB (c n : Nat) : List UInt8 := uvarint c ++ uvarint n
def valB (s : ByteArray) : List UInt8 := uvarint s.size ++ sb s

/-- A record. -/
structure Rec where
  slot : Nat
  pC : Nat
  pN : Nat
  aC : Nat
  aN : Nat
  av : ByteArray
  ld : ByteArray
  hl : Bool
  seen : Nat
  lC : Nat
  lN : Nat
  lS : Nat
  start : Nat
  mem : ByteArray

/-- What a slot has learned, as the number that is written; and the value. -/
def code (hl : Bool) (ld av : ByteArray) : Nat := if hl = false then 0 else if sb ld = sb av then 2 else 1
def told (hl : Bool) (ld av : ByteArray) : ByteArray := if hl = false then ByteArray.empty else if sb ld = sb av then ByteArray.empty else ld

def bodyStart (start : Nat) : List UInt8 := 4 :: uvarint start
def bodyMem (m : ByteArray) : List UInt8 := 5 :: valB m
def bodyLog (c n s : Nat) : List UInt8 := 2 :: (genB c n ++ uvarint s)
def bodySlot (slot pC pN aC aN : Nat) (av : ByteArray) (c : Nat) (v : ByteArray) (seen : Nat) : List UInt8 :=
  1 :: (uvarint slot ++ (genB pC pN ++ (genB aC aN ++ (valB av ++ (uvarint c ++ (valB v ++ uvarint seen))))))

def body (r : Rec) : List UInt8 :=
  if r.start ≠ 0 then bodyStart r.start
  else if sb r.mem ≠ [] then bodyMem r.mem
  else if r.slot = 0 then bodyLog r.lC r.lN r.lS
  else bodySlot r.slot r.pC r.pN r.aC r.aN r.av (code r.hl r.ld r.av) (told r.hl r.ld r.av) r.seen

/-- The numbers fit their kinds. -/
def Fits (r : Rec) : Prop :=
  r.slot < 18446744073709551616 ∧ r.pC < 18446744073709551616 ∧ r.pN < 4294967296 ∧ r.aC < 18446744073709551616 ∧ r.aN < 4294967296 ∧ r.seen < 18446744073709551616 ∧
  r.lC < 18446744073709551616 ∧ r.lN < 4294967296 ∧ r.lS < 18446744073709551616 ∧ r.start < 18446744073709551616

theorem sb_length (s : ByteArray) : (sb s).length = s.size := by
  unfold sb
  rw [Array.length_toList]
  rfl
theorem sb_inj {s t : ByteArray} (h : sb s = sb t) : s = t := by
  cases s with
  | mk a => cases t with
    | mk b => simp [sb] at h; rw [h]
theorem sb_nil {s : ByteArray} : sb s = [] ↔ s.size = 0 := by
  rw [← sb_length, List.length_eq_zero_iff]

/-- A varint is read off the head of a row in one way. -/
theorem uvarint_inj : ∀ (k x y : Nat) (l m : List UInt8), x ≤ k → uvarint x ++ l = uvarint y ++ m → x = y ∧ l = m := by
  intro k
  induction k with
  | zero =>
    intro x y l m hx h
    obtain rfl : x = 0 := by omega
    rw [Lib.uvarint_small (by omega : 0 < 128)] at h
    by_cases hy : y < 128
    · rw [Lib.uvarint_small hy] at h
      simp at h
      refine ⟨?_, h.2⟩
      have := congrArg UInt8.toNat h.1
      simp at this
      omega
    · rw [Lib.uvarint_big (by omega)] at h
      simp at h
      have := congrArg UInt8.toNat h.1
      simp at this
      omega
  | succ k ih =>
    intro x y l m hx h
    by_cases hx1 : x < 128
    · rw [Lib.uvarint_small hx1] at h
      by_cases hy : y < 128
      · rw [Lib.uvarint_small hy] at h
        simp at h
        refine ⟨?_, h.2⟩
        have := congrArg UInt8.toNat h.1
        simp at this
        omega
      · rw [Lib.uvarint_big (by omega)] at h
        simp at h
        have := congrArg UInt8.toNat h.1
        simp at this
        omega
    · rw [Lib.uvarint_big (by omega : 128 ≤ x)] at h
      by_cases hy : y < 128
      · rw [Lib.uvarint_small hy] at h
        simp at h
        have := congrArg UInt8.toNat h.1
        simp at this
        omega
      · rw [Lib.uvarint_big (by omega : 128 ≤ y)] at h
        simp only [List.cons_append, List.cons.injEq] at h
        obtain ⟨h1, h2⟩ := ih (x / 128) (y / 128) l m (by omega) h.2
        have := congrArg UInt8.toNat h.1
        simp at this
        exact ⟨by omega, h2⟩
theorem uv_inj {x y : Nat} {l m : List UInt8} (h : uvarint x ++ l = uvarint y ++ m) : x = y ∧ l = m := uvarint_inj x x y l m (Nat.le_refl _) h
theorem uv_inj' {x y : Nat} (h : uvarint x = uvarint y) : x = y := (uv_inj (l := []) (m := []) (by simpa using h)).1
theorem gen_inj {a b c d : Nat} {l m : List UInt8} (h : genB a b ++ l = genB c d ++ m) : a = c ∧ b = d ∧ l = m := by
  simp only [genB, List.append_assoc] at h
  obtain ⟨h1, h2⟩ := uv_inj h
  obtain ⟨h3, h4⟩ := uv_inj h2
  exact ⟨h1, h3, h4⟩
theorem val_inj {s t : ByteArray} {l m : List UInt8} (h : valB s ++ l = valB t ++ m) : s = t ∧ l = m := by
  simp only [valB, List.append_assoc] at h
  obtain ⟨h1, h2⟩ := uv_inj h
  obtain ⟨h3, h4⟩ := List.append_inj h2 (by rw [sb_length, sb_length, h1])
  exact ⟨sb_inj h3, h4⟩
theorem val_inj' {s t : ByteArray} (h : valB s = valB t) : s = t := (val_inj (l := []) (m := []) (by simpa using h)).1

/-- Two records state the same thing. -/
def same (r q : Rec) : Bool :=
  if r.start ≠ 0 ∨ q.start ≠ 0 then decide (r.start = q.start)
  else if sb r.mem ≠ [] ∨ sb q.mem ≠ [] then decide (sb r.mem = sb q.mem)
  else if r.slot = 0 ∨ q.slot = 0 then decide (r.slot = q.slot) && (decide (r.lC = q.lC) && (decide (r.lN = q.lN) && decide (r.lS = q.lS)))
  else if r.slot ≠ q.slot ∨ r.pC ≠ q.pC ∨ r.pN ≠ q.pN ∨ r.aC ≠ q.aC ∨ r.aN ≠ q.aN ∨ sb r.av ≠ sb q.av ∨ r.seen ≠ q.seen ∨ r.hl ≠ q.hl then false
  else !r.hl || decide (sb r.ld = sb q.ld)

theorem told_eq {a b : Bool} {l m u v : ByteArray} (hab : a = b) (huv : sb u = sb v) (h : a = true → sb l = sb m) : code a l u = code b m v ∧ told a l u = told b m v := by
  subst hab
  unfold code told
  cases a with
  | false => simp
  | true =>
    have e := h rfl
    have e2 := sb_inj e
    subst e2
    rw [huv]
    exact ⟨rfl, rfl⟩

theorem told_inj {a b : Bool} {l m u v : ByteArray} (huv : sb u = sb v) (hc : code a l u = code b m v) (ht : told a l u = told b m v) : a = b ∧ (a = true → sb l = sb m) := by
  unfold code told at *
  cases a with
  | false =>
    cases b with
    | false => simp
    | true => simp at hc; split at hc <;> simp at hc
  | true =>
    cases b with
    | false => simp at hc; split at hc <;> simp at hc
    | true =>
      refine ⟨rfl, fun _ => ?_⟩
      simp only [Bool.true_eq_false, if_false] at hc ht
      by_cases h1 : sb l = sb u
      · by_cases h2 : sb m = sb v
        · rw [h1, h2, huv]
        · rw [if_pos h1, if_neg h2] at hc; simp at hc
      · by_cases h2 : sb m = sb v
        · rw [if_neg h1, if_pos h2] at hc; simp at hc
        · rw [if_neg h1, if_neg h2] at ht; rw [ht]

/-- THE LAW: two bodies are one exactly where the records state the same thing. -/
theorem body_same (r q : Rec) : decide (body r = body q) = same r q := by
  rw [Bool.eq_iff_iff, decide_eq_true_iff]
  unfold body same
  by_cases hs : r.start ≠ 0
  · rw [if_pos hs, if_pos (show r.start ≠ 0 ∨ q.start ≠ 0 from .inl hs)]
    by_cases ht : q.start ≠ 0
    · rw [if_pos ht]
      simp only [bodyStart, List.cons.injEq, true_and, decide_eq_true_iff]
      exact ⟨uv_inj', fun h => by rw [h]⟩
    · rw [if_neg ht]
      have e : q.start = 0 := by omega
      have : r.start ≠ q.start := by omega
      simp only [this, decide_false, Bool.false_eq_true, iff_false]
      repeat' split
      all_goals simp [bodyStart, bodyMem, bodyLog, bodySlot]
  · rw [if_neg hs]
    by_cases ht : q.start ≠ 0
    · rw [if_pos ht, if_pos (show r.start ≠ 0 ∨ q.start ≠ 0 from .inr ht)]
      have : r.start ≠ q.start := by omega
      simp only [this, decide_false, Bool.false_eq_true, iff_false]
      repeat' split
      all_goals simp [bodyStart, bodyMem, bodyLog, bodySlot]
    · rw [if_neg ht, if_neg (show ¬ (r.start ≠ 0 ∨ q.start ≠ 0) from by omega)]
      by_cases hm : sb r.mem ≠ []
      · rw [if_pos hm, if_pos (show sb r.mem ≠ [] ∨ sb q.mem ≠ [] from .inl hm)]
        by_cases hn : sb q.mem ≠ []
        · rw [if_pos hn]
          simp only [bodyMem, List.cons.injEq, true_and, decide_eq_true_iff]
          exact ⟨fun h => by rw [val_inj' h], fun h => by rw [sb_inj h]⟩
        · rw [if_neg hn]
          have : sb r.mem ≠ sb q.mem := by intro e; rw [e] at hm; exact hn hm
          simp only [this, decide_false, Bool.false_eq_true, iff_false]
          split <;> simp [bodyMem, bodyLog, bodySlot]
      · rw [if_neg hm]
        by_cases hn : sb q.mem ≠ []
        · rw [if_pos hn, if_pos (show sb r.mem ≠ [] ∨ sb q.mem ≠ [] from .inr hn)]
          have : sb r.mem ≠ sb q.mem := by intro e; rw [e] at hm; exact hm hn
          simp only [this, decide_false, Bool.false_eq_true, iff_false]
          split <;> simp [bodyMem, bodyLog, bodySlot]
        · rw [if_neg hn, if_neg (show ¬ (sb r.mem ≠ [] ∨ sb q.mem ≠ []) from by intro h; rcases h with h | h; exact hm h; exact hn h)]
          by_cases hz : r.slot = 0
          · rw [if_pos hz, if_pos (show r.slot = 0 ∨ q.slot = 0 from .inl hz)]
            by_cases hy : q.slot = 0
            · rw [if_pos hy]
              simp only [bodyLog, List.cons.injEq, true_and, hz, hy, decide_true, Bool.true_and, Bool.and_eq_true, decide_eq_true_iff]
              constructor
              · intro h
                obtain ⟨h1, h2, h3⟩ := gen_inj h
                exact ⟨h1, h2, uv_inj' h3⟩
              · rintro ⟨h1, h2, h3⟩
                rw [h1, h2, h3]
            · rw [if_neg hy]
              have : r.slot ≠ q.slot := by omega
              simp [bodyLog, bodySlot, this]
          · rw [if_neg hz]
            by_cases hy : q.slot = 0
            · rw [if_pos hy, if_pos (show r.slot = 0 ∨ q.slot = 0 from .inr hy)]
              have : r.slot ≠ q.slot := by omega
              simp [bodyLog, bodySlot, this]
            · rw [if_neg hy, if_neg (show ¬ (r.slot = 0 ∨ q.slot = 0) from by omega)]
              constructor
              · intro h
                simp only [bodySlot, List.cons.injEq, true_and] at h
                obtain ⟨h1, h⟩ := uv_inj h
                obtain ⟨h2, h3, h⟩ := gen_inj h
                obtain ⟨h4, h5, h⟩ := gen_inj h
                obtain ⟨h6, h⟩ := val_inj h
                obtain ⟨h7, h⟩ := uv_inj h
                obtain ⟨h8, h⟩ := val_inj h
                have h9 := uv_inj' h
                have hav : sb r.av = sb q.av := by rw [h6]
                obtain ⟨h10, h11⟩ := told_inj hav h7 h8
                rw [if_neg (by simp [h1, h2, h3, h4, h5, h6, h9, h10])]
                cases hl : r.hl with
                | false => simp
                | true => simp [h11 hl]
              · intro h
                by_cases hd : r.slot ≠ q.slot ∨ r.pC ≠ q.pC ∨ r.pN ≠ q.pN ∨ r.aC ≠ q.aC ∨ r.aN ≠ q.aN ∨ sb r.av ≠ sb q.av ∨ r.seen ≠ q.seen ∨ r.hl ≠ q.hl
                · rw [if_pos hd] at h; simp at h
                · rw [if_neg hd] at h
                  simp only [not_or, Classical.not_not] at hd
                  obtain ⟨h1, h2, h3, h4, h5, h6, h7, h8⟩ := hd
                  have ht := told_eq h8 h6 (l := r.ld) (m := q.ld) (fun e => by simpa [e] using h)
                  rw [bodySlot, bodySlot, h1, h2, h3, h4, h5, sb_inj h6, h7, ← ht.1, ← ht.2, sb_inj h6]

end Go.Proofs.Qxb6613904a
