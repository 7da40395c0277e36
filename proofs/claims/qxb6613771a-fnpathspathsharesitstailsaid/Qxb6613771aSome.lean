/-
  FnPathsPathSharesItsTail where there is a path.
-/
import Derived.Test.Qxb6613771aLoad
namespace Go.Proofs.Qxb6613771a
open Go.RowKit
set_option linter.unusedVariables false

theorem Nums.congr {w : World} {a : Option Addr} {len : Nat} {f g : Nat → Value} (h : Nums w a len f) (e : ∀ i, i < len → f i = g i) : Nums w a len g := fun hl => by
  obtain ⟨b, off, ha, hb, hc⟩ := h hl
  exact ⟨b, off, ha, hb, fun i hi => by rw [← e i hi]; exact hc i hi⟩
theorem row_nums {w : World} {base : Nat} {t : TypeId} {v : Value} {k : Nat} {xs : List Value} (h : w.ownsRow base t 1 v k xs) : ∃ a cap, v = .slice a k cap ∧ Nums w a k (fun i => xs.getD i undef) := by
  obtain ⟨h0, ⟨rfl, rfl⟩ | ⟨g, cap, cur, rfl, _, hg, hk, _, hs, hx⟩⟩ := h
  · exact ⟨none, 0, rfl, fun h => absurd h (by omega)⟩
  · refine ⟨_, cap, rfl, fun _ => ⟨g, 0, rfl, (Array.getElem?_eq_some_iff.1 hg).1, fun i hi => ?_⟩⟩
    rw [Nat.mul_one] at hx hs
    have h1 : i < cur.size := by omega
    rw [← hx]
    simp [World.cell?, hg, List.getD_eq_getElem?_getD, hi, h1]
theorem nums_ints {w : World} {base : Nat} {v : Value} {l : List Nat} (h : w.ownsRow base 3 1 v l.length (ints l)) : ∃ a cap, v = .slice a l.length cap ∧ Nums w a l.length (fun i => .int .i64 (l.getD i 0 : Nat)) := by
  obtain ⟨a, cap, rfl, hn⟩ := row_nums h
  exact ⟨a, cap, rfl, hn.congr fun i hi => by simp [ints, List.getD_eq_getElem?_getD, hi]⟩
theorem nums_lks {w : World} {base : Nat} {v : Value} {LB : Nat → Nat} {l : List Nat} (h : w.ownsRow base 44 1 v l.length (lks LB l)) : ∃ a cap, v = .slice a l.length cap ∧ Nums w a l.length (fun i => np (LB (l.getD i 0))) := by
  obtain ⟨a, cap, rfl, hn⟩ := row_nums h
  exact ⟨a, cap, rfl, hn.congr fun i hi => by simp [lks, List.getD_eq_getElem?_getD, hi]⟩
theorem getD_mem {l : List Nat} {i : Nat} (h : i < l.length) : l.getD i 0 ∈ l := by
  rw [List.getD_eq_getElem?_getD, List.getElem?_eq_getElem h]
  exact List.getElem_mem h
theorem IsCh.linked {n D : Nat} {P : Nat → Int} : ∀ {l : List Nat} {i : Nat}, IsCh n D P l i → ∀ x ∈ l, linked n P D x
  | [], _, _, x, hx => by cases hx
  | k :: l, i, h, x, hx => by
    rcases List.mem_cons.1 hx with h1 | h1
    · subst h1
      have e := h.1
      subst e
      exact ⟨by have := h.2.1; omega, h.2.2.1, h.2.2.2.1⟩
    · exact IsCh.linked h.2.2.2.2 x h1
theorem reached {n D F : Nat} {P : Nat → Int} {b : Bool} {l : List Nat} (hl : IsCh n D P l F) (h : b = false → ∀ l, ¬ IsCh n D P l F) : b = true := by
  cases b with
  | true => rfl
  | false => exact absurd hl (h rfl l)
theorem LinksOk.link {n : Nat} {P : Nat → Int} {d : Int} {B : Nat → Nat} {r lb : Nat} {LB : Nat → Nat} {w : World} (h : LinksOk n P d B r lb LB n w) {j : Nat} (hj : j < n) (hl : linked n P d j) : w.cell? ⟨lb, j, none⟩ = some (np (LB j)) := h.row.cell' hj (by simp [hj, hl])
theorem LinksOk.parts {n : Nat} {P : Nat → Int} {d : Int} {B : Nat → Nat} {r lb : Nat} {LB : Nat → Nat} {w : World} (h : LinksOk n P d B r lb LB n w) {j : Nat} (hj : j < n) (hl : linked n P d j) :
    w.cell? ⟨LB j, 1, none⟩ = some (np (r + 1 + (P j).toNat)) ∧ w.cell? ⟨LB j, 3, none⟩ = some (.float .f64 (B j)) := by
  have := (h.lks j hj hl).2
  simp [World.cell?, this]

theorem bw_cases (B : Nat → Nat) (F : Nat) (t : List Nat) : (0 < t.length → bwL B (F :: t) = minB (B F) (bwL B t)) ∧ (¬ 0 < t.length → bwL B (F :: t) = B F) := by
  cases t with
  | nil => exact ⟨fun h => absurd h (by simp), fun _ => rfl⟩
  | cons j t => exact ⟨fun _ => rfl, fun h => absurd (by simp) h⟩
theorem cl_cases (C : Nat → Int) (F : Nat) (t : List Nat) : 0 < t.length → clL C t ≤ clL C (F :: t) := by
  cases t with
  | nil => exact fun h => absurd h (by simp)
  | cons j t => exact fun _ => maxZ_ge _ _

set_option maxRecDepth 100000 in
set_option maxHeartbeats 4000000 in
theorem someC (a0 : Option Addr) (n c0 : Nat) (P : Nat → Int) (a1 : Option Addr) (l1 c1 : Nat) (F1 : Nat → Nat) (a2 : Option Addr) (l2 c2 : Nat) (F2 : Nat → Int) (w : World)
    (hn : n ≤ 4096) (hl1 : l1 ≤ 4096) (hl2 : l2 ≤ 4096) (h0 : Nums w a0 n (fun i => .int .i64 (P i))) (h1 : Nums w a1 l1 (fun i => .float .f64 (F1 i))) (h2 : Nums w a2 l2 (fun i => .int .i64 (F2 i)))
    (D : Nat) (hDn : D < n) (hD0 : (0 : Int) ≤ D) (hD1 : (D : Int) < n) (F : Nat) (hFn : F < n) (hF0 : (0 : Int) ≤ F) (hF1 : (F : Int) < n) (t : List Nat) (hl : IsCh n D P (F :: t) F) :
    Calls Try.prog 4 #[.slice a0 n c0, .slice a1 l1 c1, .slice a2 l2 c2, .int .i64 D, .int .i64 F] w fun e w' => e = .returned (.bool true) ∧ Below w.heap.size w w' := by
  have HL : Hid (IsCh n D P (F :: t) F) := hl
  have hlen := hl.length_le hFn
  obtain ⟨L, hL⟩ : ∃ L, L = (F :: t).length := ⟨_, rfl⟩
  obtain ⟨M, hM⟩ : ∃ M, M = t.length := ⟨_, rfl⟩
  have HLen : Hid (L = (F :: t).length ∧ M = t.length) := ⟨hL, hM⟩
  have hLM : M + 1 ≤ L := by rw [hL, hM]; simp
  have hLM2 : L ≤ M + 1 := by rw [hL, hM]; simp
  have hL4 : L ≤ 4096 := by rw [hL]; omega
  clear hl hlen hL hM
  go_enter Try.func4, Try.ntmps4
  go_upto_if 35 with (first | (go_at_call 6; refine (bytes6_any a0 n c0 a1 l1 c1 a2 l2 c2 D F w).mono ?_; rintro e w' ⟨⟨b, rfl⟩, rfl⟩))
  cases b with
  | false =>
    go_wp2_with fail
    go_ret
    exact ⟨rfl, Below.refl _ _⟩
  | true =>
    go_upto_region 13 with (first | (go_at_call 7; refine (build_any a0 n c0 P a1 l1 c1 F1 a2 l2 c2 F2 D w hn hl1 hl2 h0 h1 h2).mono ?_; rintro e w1 ⟨pb, nb, lb, r, LB, rfl, hB, hb1⟩; have hcD := hB.no.row.cell hDn; have hcF := hB.no.row.cell hFn))
    obtain ⟨g, hst, hask⟩ := ask_some hB hn hDn hFn HL.out
    obtain ⟨CL, hCL⟩ : ∃ x, x = clL (clV l2 F2) (F :: t) := ⟨_, rfl⟩
    obtain ⟨BW, hBW⟩ : ∃ x, x = bwL (bwV l1 F1) (F :: t) := ⟨_, rfl⟩
    rw [← hCL, ← hBW, ← HLen.out.1] at hask
    have HCL : Hid (CL = clL (clV l2 F2) (F :: t)) := hCL
    have HBW : Hid (BW = bwL (bwV l1 F1) (F :: t)) := hBW
    clear hCL hBW hcD hcF
    go_upto_region 14 with (first
      | (go_at_call 8; refine hask.mono ?_; rintro e w2 ⟨rfl, hb2⟩)
      | (refine wpList_store38 w2 (by rfl) (.tmp 18) (.tmp 90) (by rfl) CL BW L (some ⟨g, 0, none⟩) none (by rfl) (by rfl) ?_))
    have hba : Below w2.heap.size w2 (w2.alloc (.cells (pathC CL BW L (some ⟨g, 0, none⟩) none) 38)) := (Below.refl _ _).alloc (Nat.le_refl _) _
    have hb13 : Below w1.heap.size w1 (w2.alloc (.cells (pathC CL BW L (some ⟨g, 0, none⟩) none) 38)) := hb2.trans (hba.mono hb2.size)
    have hh3 := heap_alloc_new w2 (.cells (pathC CL BW L (some ⟨g, 0, none⟩) none) 38)
    obtain ⟨w3, hw3⟩ : ∃ x, x = w2.alloc (.cells (pathC CL BW L (some ⟨g, 0, none⟩) none) 38) := ⟨_, rfl⟩
    obtain ⟨pa, hpa⟩ : ∃ x, x = w2.heap.size := ⟨_, rfl⟩
    rw [← hw3] at hb13 hh3
    rw [← hpa] at hh3
    simp only [← hw3, ← hpa]
    have hpa3 : pa < w3.heap.size := (Array.getElem?_eq_some_iff.1 hh3).1
    clear hw3 hpa hba hask hb2
    have hB3 := hB.below hb13
    have hst3 := hst.below hb13
    have hbw3 : Below w.heap.size w w3 := hb1.trans (hb13.mono hb1.size)
    clear hB hst hb13 hb1
    go_upto_region 15 with (go_at_call 9; refine (walkIn a0 n c0 P D F w3 hn hDn hFn (h0.below hbw3)).mono ?_; rintro e w4 ⟨v4, b4, rfl, hb4, ht4, hf4⟩; have hbt := reached HL.out hf4; have HX4 : Hid _ := ht4 hbt; subst hbt; clear ht4 hf4)
    obtain ⟨l', hl', hown4⟩ := HX4.out
    have e := hl'.uniq HL.out
    subst e
    clear HX4 hl'
    obtain ⟨a20, c20, rfl, hn20⟩ := nums_ints hown4
    rw [← HLen.out.1] at hn20
    simp only [← HLen.out.1]
    have hh4 := (hb4.block pa hpa3).trans hh3
    have hB4 := hB3.below hb4
    have hst4 := hst3.below hb4
    have hbw4 : Below w.heap.size w w4 := hbw3.trans (hb4.mono hbw3.size)
    have hpa4 : pa < w4.heap.size := (Array.getElem?_eq_some_iff.1 hh4).1
    clear hown4 hh3 hB3 hst3 hbw3 hb4 hpa3
    have hlinks := links_any LB (F :: t) g CL BW w4 (by rw [← HLen.out.1]; exact hL4) hst4
    rw [← HLen.out.1] at hlinks
    obtain ⟨hp0, hp1, hp2, hp3, hp4⟩ := path_cells hh4
    go_upto_region 20 with (go_at_call 10; refine hlinks.mono ?_; rintro e w5 ⟨v5, rfl, hown5, hb5⟩)
    rw [HLen.out.1] at hown5
    obtain ⟨a22, c22, rfl, hn22⟩ := nums_lks hown5
    rw [← HLen.out.1] at hn22
    simp only [← HLen.out.1]
    have hh5 := (hb5.block pa hpa4).trans hh4
    have hB5 := hB4.below hb5
    have hn20' := hn20.below hb5
    have hbw5 : Below w.heap.size w w5 := hbw4.trans (hb5.mono hbw4.size)
    have hpa5 : pa < w5.heap.size := (Array.getElem?_eq_some_iff.1 hh5).1
    clear hp0 hp1 hp2 hp3 hp4 hlinks hown5 hh4 hB4 hst4 hbw4 hb5 hpa4 hn20
    obtain ⟨hp0, hp1, hp2, hp3, hp4⟩ := path_cells hh5
    have HJ : Hid (∀ k, k < L → (F :: t).getD k 0 ∈ (F :: t)) := fun k hk => getD_mem (by rw [← HLen.out.1]; exact hk)
    obtain ⟨J, hJ⟩ : ∃ J : Nat → Nat, J = fun k => (F :: t).getD k 0 := ⟨_, rfl⟩
    have HJ2 : Hid (J = fun k => (F :: t).getD k 0) := hJ
    have hn20'' : Nums w5 a20 L (fun k => .int .i64 (J k : Nat)) := by rw [hJ]; exact hn20'
    have hn22'' : Nums w5 a22 L (fun k => np (LB (J k))) := by rw [hJ]; exact hn22
    clear hn20' hn22 hJ
    go_upto_block 0 with fail
    refine loopA _ rfl _ n L lb LB J a20 a22 c20 c22 w5 hn hL4 (fun k hk => by rw [HJ2.out]; exact HL.out.lt hFn _ (HJ.out k hk)) hn20'' hn22'' (fun k hk => by rw [HJ2.out]; exact hB5.lk.link (HL.out.lt hFn _ (HJ.out k hk)) (HL.out.linked _ (HJ.out k hk))) _ _ _ _ _ _ _ _ _ _ _ _ _ _ _ _ _ _ _ _ _ _ _ _ _ _ _ _ _ _ _ _ _ _ _ _ _ _ _ _ _ _ _ _ _ _ _ _ _ _ _ _ _ _ _ _ _ _ _ _ _ _ _ _ _ _ _ _ _ _ _ _ _ _ _ _ _ _ _ _ _ _ _ _ _ _ _ _ _ _ _ _ _ _ _ _ _ _ _ _ _ _ _ _ _ _ _ _ _ _ _ _ _ _ _ _ _ _ _ _ _ _ _ _ _ _ _ _ _ _ _ _ _ _ _ _ _ _ _ _ _ _ _ _ _ _ _ _ _ _ _ _ _ _ _ _ _ _ _ _ _ _ _ _ _ _ _ _ _ _ _ _ _ _ _ _ _ _ _ _ _ _ _ _ _ _ _ _ _ _ _ _ _ _ _ _ _ _ _ _ _ _ _ _ _ _ _ _ _ _ _ _ _ _ _ _ _ _ _ _ _ _ _ _ _ ?_
    intro y10 y23 y137 y138 y139 y140 y141 y142 y143 y144 y145 y146 y147 y148 y149 y150 y151 y152 y153 y154 w6 hb6
    have hh6 := (hb6.block pa hpa5).trans hh5
    have hB6 := hB5.below hb6
    have hn22 := hn22''.below hb6
    have hbw6 : Below w.heap.size w w6 := hbw5.trans (hb6.mono hbw5.size)
    have hpa6 : pa < w6.heap.size := (Array.getElem?_eq_some_iff.1 hh6).1
    clear hp0 hp1 hp2 hp3 hp4 hn20'' hn22'' hh5 hB5 hbw5 hb6 hpa5 HJ
    obtain ⟨b22, o22, rfl, hb22, hc22⟩ := hn22 (by omega)
    obtain ⟨hf1, hf3⟩ := hB6.lk.parts hFn (HL.out.linked F (by simp))
    have he0 : w6.cell? ⟨b22, o22, none⟩ = some (np (LB F)) := by
      have := hc22 0 (by omega)
      rw [HJ2.out] at this
      exact this
    have htl := HL.out.2.2.2.2
    have hqn : (P F).toNat < n := by have h3 := HL.out.2.2.1; have h4 := HL.out.2.2.2.1; omega
    obtain ⟨q, hq⟩ : ∃ q, q = (P F).toNat := ⟨_, rfl⟩
    rw [← hq] at htl hqn hf1
    have HT : Hid (IsCh n D P t q) := htl
    clear hq htl hc22
    obtain ⟨g2, hst2, hask2⟩ := ask_some hB6 hn hDn hqn HT.out
    obtain ⟨CQ, hCQ⟩ : ∃ x, x = clL (clV l2 F2) t := ⟨_, rfl⟩
    obtain ⟨BQ, hBQ⟩ : ∃ x, x = bwL (bwV l1 F1) t := ⟨_, rfl⟩
    obtain ⟨bF, hbF⟩ : ∃ x, x = bwV l1 F1 F := ⟨_, rfl⟩
    rw [← hCQ, ← hBQ, ← HLen.out.2] at hask2
    rw [← hbF] at hf3
    have HX : Hid ((0 < M → BW = minB bF BQ ∧ CQ ≤ CL) ∧ (¬ 0 < M → BW = bF)) := by
      rw [HBW.out, HCL.out, hCQ, hBQ, hbF, HLen.out.2]
      exact ⟨fun h => ⟨(bw_cases _ F t).1 h, cl_cases _ F t h⟩, (bw_cases _ F t).2⟩
    clear hCQ hBQ hbF
    go_upto_region 30 with (first
      | (go_at_call 8; refine hask2.mono ?_; rintro e w7 ⟨rfl, hb7⟩)
      | (refine wpList_store38 w7 (by rfl) (.tmp 24) (.tmp 171) (by rfl) CQ BQ M (some ⟨g2, 0, none⟩) none (by rfl) (by rfl) ?_))
    have hba : Below w7.heap.size w7 (w7.alloc (.cells (pathC CQ BQ M (some ⟨g2, 0, none⟩) none) 38)) := (Below.refl _ _).alloc (Nat.le_refl _) _
    have hb8 : Below w6.heap.size w6 (w7.alloc (.cells (pathC CQ BQ M (some ⟨g2, 0, none⟩) none) 38)) := hb7.trans (hba.mono hb7.size)
    have hq8 := heap_alloc_new w7 (.cells (pathC CQ BQ M (some ⟨g2, 0, none⟩) none) 38)
    obtain ⟨w8, hw8⟩ : ∃ x, x = w7.alloc (.cells (pathC CQ BQ M (some ⟨g2, 0, none⟩) none) 38) := ⟨_, rfl⟩
    obtain ⟨qa, hqa⟩ : ∃ x, x = w7.heap.size := ⟨_, rfl⟩
    rw [← hw8] at hb8 hq8
    rw [← hqa] at hq8
    simp only [← hw8, ← hqa]
    clear hw8 hqa hba hask2 hb7
    have hh8 := (hb8.block pa hpa6).trans hh6
    have hst8 := hst2.below hb8
    have hn22 := hn22.below hb8
    have he0 := cellk hb8 he0
    have hf3 := cellk hb8 hf3
    have hbw8 : Below w.heap.size w w8 := hbw6.trans (hb8.mono hbw6.size)
    have hpa8 : pa < w8.heap.size := (Array.getElem?_eq_some_iff.1 hh8).1
    have hqa8 : qa < w8.heap.size := (Array.getElem?_eq_some_iff.1 hq8).1
    clear hb8 hst2 hf1 hB6 hbw6 hpa6 hh6 hb22
    obtain ⟨hp0, hp1, hp2, hp3, hp4⟩ := path_cells hh8
    obtain ⟨hq0, hq1, hq2, hq3, hq4⟩ := path_cells hq8
    have hlinks := links_any LB t g2 CQ BQ w8 (by rw [← HLen.out.2]; omega) hst8
    rw [← HLen.out.2] at hlinks
    have hcmp : ((M : Int) != (L : Int) - 1) = false := by simp; omega
    go_upto_region 33 with (go_at_call 10; refine hlinks.mono ?_; rintro e w9 ⟨v9, rfl, hown9, hb9⟩)
    rw [HLen.out.2] at hown9
    obtain ⟨a26, c26, rfl, hn26⟩ := nums_lks hown9
    rw [← HLen.out.2] at hn26
    simp only [← HLen.out.2]
    have hh9 := (hb9.block pa hpa8).trans hh8
    have hq9 := (hb9.block qa hqa8).trans hq8
    have hn22 := hn22.below hb9
    have he0 := cellk hb9 he0
    have hf3 := cellk hb9 hf3
    have hbw9 : Below w.heap.size w w9 := hbw8.trans (hb9.mono hbw8.size)
    have hpa9 : pa < w9.heap.size := (Array.getElem?_eq_some_iff.1 hh9).1
    have hqa9 : qa < w9.heap.size := (Array.getElem?_eq_some_iff.1 hq9).1
    clear hp0 hp1 hp2 hp3 hp4 hq0 hq1 hq2 hq3 hq4 hlinks hown9 hb9 hpa8 hqa8 hh8 hq8 hst8 hbw8
    go_upto_block 2 with fail
    refine loopB _ rfl _ M L (fun k => LB (J k)) (some ⟨b22, o22, none⟩) a26 c22 c26 w9 (by omega) hLM hL4 hn22 (hn26.congr fun i hi => by rw [HJ2.out]; rfl) _ _ _ _ _ _ _ _ _ _ _ _ _ _ _ _ _ _ _ _ _ _ _ _ _ _ _ _ _ _ _ _ _ _ _ _ _ _ _ _ _ _ _ _ _ _ _ _ _ _ _ _ _ _ _ _ _ _ _ _ _ _ _ _ _ _ _ _ _ _ _ _ _ _ _ _ _ _ _ _ _ _ _ _ _ _ _ _ _ _ _ _ _ _ _ _ _ _ _ _ _ _ _ _ _ _ _ _ _ _ _ _ _ _ _ _ _ _ _ _ _ _ _ _ _ _ _ _ _ _ _ _ _ _ _ _ _ _ _ _ _ _ _ _ _ _ _ _ _ _ _ _ _ _ _ _ _ _ _ _ _ _ _ _ _ _ _ _ _ _ _ _ _ _ _ _ _ _ _ _ _ _ _ _ _ _ _ _ _ _ _ _ _ _ _ _ _ _ _ _ _ _ _ _ _ _ _ _ _ _ _ _ _ _ _ _ _ _ _ _ _ _ _ _ _ _ ?_
    intro z10 z27 z191 z192 z193 z194 z195 z196 z197 z198 z199 z200 z201 z202 z203 z204 z205 z206 w10 hb10
    have hh10 := (hb10.block pa hpa9).trans hh9
    have hq10 := (hb10.block qa hqa9).trans hq9
    have he0 := cellk hb10 he0
    have hf3 := cellk hb10 hf3
    have hbw10 : Below w.heap.size w w10 := hbw9.trans (hb10.mono hbw9.size)
    clear hb10 hpa9 hqa9 hh9 hq9 hn22 hn26 hbw9
    obtain ⟨hp0, hp1, hp2, hp3, hp4⟩ := path_cells hh10
    obtain ⟨hq0, hq1, hq2, hq3, hq4⟩ := path_cells hq10
    clear hh10 hq10
    by_cases hpos : 0 < M
    · obtain ⟨hbw, hcl⟩ := HX.out.1 hpos
      have hsame : ∀ W, Calls Try.prog 12 #[.float .f64 BW, .float .f64 (minB bF BQ)] W fun e w' => e = .returned (.bool true) ∧ W = w' := fun W => by rw [hbw]; exact sameF_self _ W
      clear hbw
      go_wp2_with (first
        | (go_at_call 11; refine (minF_any bF BQ _).mono ?_; rintro e w' ⟨rfl, rfl⟩)
        | (go_at_call 12; refine (hsame _).mono ?_; rintro e w' ⟨rfl, rfl⟩))
      go_ret
      exact ⟨rfl, hbw10⟩
    · have hbw := HX.out.2 hpos
      have hsame : ∀ W, Calls Try.prog 12 #[.float .f64 BW, .float .f64 bF] W fun e w' => e = .returned (.bool true) ∧ W = w' := fun W => by rw [hbw]; exact sameF_self _ W
      clear hbw
      go_wp2_with (first | (go_at_call 12; refine (hsame _).mono ?_; rintro e w' ⟨rfl, rfl⟩))
      go_ret
      exact ⟨rfl, hbw10⟩
end Go.Proofs.Qxb6613771a
