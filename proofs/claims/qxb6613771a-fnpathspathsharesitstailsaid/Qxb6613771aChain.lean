/-
  walkChain: the chain, and whether it ends at dest.
-/
import Derived.Test.Qxb6613771aPlain
import Derived.Maps.AppendAt
import Derived.Deep.AppendLies
namespace Go.Proofs.Qxb6613771a
open Go.RowKit
set_option linter.unusedVariables false

theorem Try.info3 : (Try.prog.info? 3).map (fun i => (i.zero, i.size, i.bytes)) = some (some (.int .i64 0), 1, 8) := by kernel_rfl
def ints (c : List Nat) : List Value := c.map fun (j : Nat) => Value.int .i64 (j : Int)
theorem ints_nil : ints [] = [] := rfl
theorem ints_snoc (c : List Nat) (j : Nat) : ints c ++ [.int .i64 (j : Int)] = ints (c ++ [j]) := by simp [ints]
theorem one_i64 (c : Int) : ∀ u ∈ [Value.int .i64 c], u.oneCell' = true := by intro u hu; simp at hu; subst hu; rfl

theorem ret_pair {v : Value} {b c : Bool} (h : b = c) : Ending.returned (.tuple #[v, .bool b]) = .returned (.tuple #[v, .bool c]) := by rw [h]

set_option maxHeartbeats 1000000 in
theorem walkOut (a : Option Addr) (n c : Nat) (d f : Int) (w : World) (hn : n ≤ 4096) (h : d < 0 ∨ (n : Int) ≤ d ∨ f < 0 ∨ (n : Int) ≤ f) :
    Calls Try.prog 9 #[.slice a n c, .int .i64 d, .int .i64 f] w fun e w' => e = .returned (.tuple #[.slice none 0 0, .bool false]) ∧ w = w' := by
  by_cases h1 : d < 0
  · go_enter Try.func9, Try.ntmps9
    go_wp2
    go_ret2
    exact ⟨rfl, rfl⟩
  by_cases h2 : (n : Int) ≤ d
  · go_enter Try.func9, Try.ntmps9
    go_wp2
    go_ret2
    exact ⟨rfl, rfl⟩
  by_cases h3 : f < 0
  · go_enter Try.func9, Try.ntmps9
    go_wp2
    go_ret2
    exact ⟨rfl, rfl⟩
  have h4 : (n : Int) ≤ f := by omega
  clear h
  go_enter Try.func9, Try.ntmps9
  go_wp2
  go_ret2
  exact ⟨rfl, rfl⟩

/-- What walkChain answers: the chain, or that there is none. -/
def WalkPost (n D : Nat) (P : Nat → Int) (F : Nat) (w : World) (e : Ending) (w' : World) : Prop :=
  ∃ v b, e = .returned (.tuple #[v, .bool b]) ∧ Below w.heap.size w w' ∧
      (b = true → ∃ l, IsCh n D P l F ∧ w'.ownsRow w.heap.size 3 1 v l.length (ints l)) ∧ (b = false → ∀ l, ¬ IsCh n D P l F)

set_option maxRecDepth 100000 in
set_option maxHeartbeats 4000000 in
theorem walkIn (a : Option Addr) (n c : Nat) (P : Nat → Int) (D F : Nat) (w : World) (hn : n ≤ 4096) (hD : D < n) (hF : F < n) (hp : Nums w a n (fun i => .int .i64 (P i))) :
    Calls Try.prog 9 #[.slice a n c, .int .i64 D, .int .i64 F] w fun e w' => WalkPost n D P F w e w' := by
  obtain ⟨i0, hi, hz0, hz1, hz2⟩ := info_parts Try.info3
  obtain ⟨b, off, rfl, hb, hc⟩ := hp (by omega)
  go_enter Try.func9, Try.ntmps9
  go_wp2
  go_loopw [9, 10, 11] (fun v vc vk wr => ∃ (k cur : Nat) (ch : List Nat), k ≤ n ∧ vk = .int .i64 k ∧ vc = .int .i64 cur ∧ cur < n ∧ Hid (Way n D P ch F cur) ∧ Hid (ch.length = k) ∧ wr.ownsRow w.heap.size 3 1 v k (ints ch) ∧ Below w.heap.size w wr) (fun _ _ vk _ => n - (intOf vk).toNat)
  case atStart => exact ⟨0, F, [], Nat.zero_le _, rfl, rfl, hF, (rfl : F = F), (rfl : ([] : List Nat).length = 0), by rw [ints_nil]; exact World.ownsRow_nil _ _ _ _, Below.refl _ _⟩
  case round =>
    obtain ⟨k, cur, ch, hk, rfl, rfl, hcur, HW, HL, hown, hbr⟩ := hrel
    have hcell : wr.cell? ⟨b, off + cur, none⟩ = some (.int .i64 (P cur)) := (hbr.cell (p := ⟨b, off + cur, none⟩) hb).trans (hc cur hcur)
    by_cases hkn : k < n
    · by_cases hcd : cur = D
      · have hq : ((cur : Int) != (D : Int)) = false := by simp [hcd]
        have hq2 : ((cur : Int) == (D : Int)) = true := by simp [hcd]
        have HC : Hid (cur = D) := hcd
        clear hcd
        go_wp2
        go_ret2
        refine ⟨_, true, ret_pair (by simp), hbr, fun _ => ⟨ch, ?_, ?_⟩, fun h => Bool.noConfusion h⟩
        · have := HW.out.to (l := []) HC.out
          simpa using this
        · rw [HL.out]; exact hown
      · have hq : ((cur : Int) != (D : Int)) = true := by simp; omega
        by_cases hr : 0 ≤ P cur ∧ P cur < n
        · obtain ⟨hr0, hr1⟩ := hr
          have hm : k + 1 ≤ maxLen := by unfold maxLen; omega
          have hby : (k + 1) * 8 ≤ 140737488355328 := by omega
          have hown2 := hown.alloc (.cells #[.int .i64 (cur : Int)] 3)
          have hbs : w.heap.size ≤ wr.heap.size := hbr.size
          have hbase : w.heap.size ≤ (wr.alloc (.cells #[.int .i64 (cur : Int)] 3)).heap.size := by simp; omega
          obtain ⟨p, hpe⟩ : ∃ p : Nat, P cur = p := ⟨(P cur).toNat, by omega⟩
          rw [hpe] at hcell hr0 hr1
          have HP : Hid (P cur = p) := hpe
          clear hpe
          go_wp2_with (first | (at_builtin; refine wpList_append_own_at _ (by rfl) (.tmp 53) (.tmp 55) 24 (by rfl) w.heap.size 3 i0 (.int .i64 0) 1 8 Try.underlying24 hi hz0 hz1 hz2 (by rfl) (by decide) _ k _ (by rfl) hown2 ⟨wr.heap.size, 0, none⟩ 1 1 [.int .i64 (cur : Int)] (by rfl) (by rfl) (cell_one_new _ _ _) (one_i64 _) hm hby hbase ?_; intro v' w1 hown' hgrow _ hat))
          go_roundw
          case rel =>
            refine ⟨k + 1, p, ch ++ [cur], by omega, by go_num, rfl, by omega, ?_, ?_, ?_, (hbr.alloc hbs _).grown hgrow hbase (fun j hj => (hown.lt j hj).1)⟩
            · show Way n D P (ch ++ [cur]) F p
              have h1 := HP.out
              have := HW.out.snoc hcd (by omega) (by omega)
              rw [h1] at this
              simpa using this
            · show (ch ++ [cur]).length = k + 1
              have := HL.out
              simp; omega
            · rw [← ints_snoc]; exact hown'
          case measure => simp [intOf]; omega
        · have hst := IsCh.stop hcd hr
          have hno : ∀ l, ¬ IsCh n D P l F := fun l hl => by
            obtain ⟨l', _, h'⟩ := HW.out.from hl
            exact hst l' h'
          by_cases hneg : P cur < 0
          · clear hst hr
            go_wp2
            go_ret2
            exact ⟨_, false, rfl, hbr, fun h => Bool.noConfusion h, fun _ => hno⟩
          · have hge : (n : Int) ≤ P cur := by omega
            clear hst hr
            go_wp2
            go_ret2
            exact ⟨_, false, rfl, hbr, fun h => Bool.noConfusion h, fun _ => hno⟩
    · by_cases hcd : cur = D
      · have hq2 : ((cur : Int) == (D : Int)) = true := by simp [hcd]
        have HC : Hid (cur = D) := hcd
        clear hcd
        go_wp2
        go_ret2
        refine ⟨_, true, ret_pair (by simp), hbr, fun _ => ⟨ch, ?_, ?_⟩, fun h => Bool.noConfusion h⟩
        · have := HW.out.to (l := []) HC.out
          simpa using this
        · rw [HL.out]; exact hown
      · have hq2 : ((cur : Int) == (D : Int)) = false := by simp; omega
        have hno : ∀ l, ¬ IsCh n D P l F := fun l hl => by
          obtain ⟨l', e, h'⟩ := HW.out.from hl
          have h1 := hl.length_le hF
          have h2 : l' ≠ [] := by rintro rfl; exact hcd h'
          have h3 := HL.out
          have h4 : 0 < l'.length := List.length_pos_iff.2 h2
          rw [e, List.length_append] at h1
          omega
        go_wp2
        go_ret2
        exact ⟨_, false, ret_pair (by simp), hbr, fun h => Bool.noConfusion h, fun _ => hno⟩
end Go.Proofs.Qxb6613771a
