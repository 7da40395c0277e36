/-
  (*Paths).Path at what buildPaths left.
-/
import Derived.Test.Qxb6613771aLoop12
namespace Go.Proofs.Qxb6613771a
open Go.RowKit
set_option linter.unusedVariables false

section
variable {n : Nat} {P : Nat → Int} {d : Int} {B : Nat → Nat} {C : Nat → Int} {pb nb lb r : Nat} {LB : Nat → Nat} {w w' : World}

theorem Built.below (h : Built n P d B C pb nb lb r LB w) (hb : Below w.heap.size w w') : Built n P d B C pb nb lb r LB w' := by
  refine ⟨h.no.below hb, h.lk.below hb, cellk hb h.c0, ?_⟩
  obtain ⟨s, hs, h1 | ⟨D, sb, G, hd, hD, hm, hr, hg⟩⟩ := h.sp
  · exact ⟨s, cellk hb hs, .inl ⟨h1.1, h1.2.below hb h1.2.lt⟩⟩
  · refine ⟨s, cellk hb hs, .inr ⟨D, sb, G, hd, hD, hm.below hb hm.lt, hr.below hb hr.lt, fun j hj => ?_⟩⟩
    rcases hg j hj with ⟨l, g, h1, h2, h3⟩ | h1
    · exact .inl ⟨l, g, h1, h2, h3.keep (K75.below hb)⟩
    · exact .inr h1

theorem idx_hit (h : NodesOk n nb r w) {x : Nat} (hx : x < n) (o : Obj) : (Instr.lookup 54 (.map (some r)) (np (r + 1 + x)) true).run Try.prog (w.alloc o) = .ok (.tuple #[.int .i64 x, .bool true]) (w.alloc o) := by
  refine look_some 54 3 (.int .i64 x) Try.underlying54 (h.map.alloc o) ((h.blk x (Nat.le_of_lt hx)).alloc o) (fun p hp => ?_) ⟨(r + 1 + x, .int .i64 x), ?_, rfl⟩
  · obtain ⟨i, hi, rfl⟩ := idx_mem hp
    refine ⟨(h.blk i (Nat.le_of_lt hi)).alloc o, fun e => ?_⟩
    have e2 : i = x := by have : r + 1 + i = r + 1 + x := e; omega
    rw [e2]
  · simp only [idx, List.mem_map, List.mem_range]
    exact ⟨x, hx, rfl⟩
theorem idx_keys (h : NodesOk n nb r w) : ∀ p ∈ idx (r + 1) n, Blk w p.1 ∧ p.1 ≠ r + 1 + n := fun p hp => by
  obtain ⟨i, hi, rfl⟩ := idx_mem hp
  exact ⟨h.blk i (Nat.le_of_lt hi), by show r + 1 + i ≠ _; omega⟩
theorem idx_any (h : NodesOk n nb r w) {x : Nat} (hx : x ≤ n) (o : Obj) : ∃ v b, (Instr.lookup 54 (.map (some r)) (np (r + 1 + x)) true).run Try.prog (w.alloc o) = .ok (.tuple #[v, .bool b]) (w.alloc o) := by
  by_cases hlt : x < n
  · exact ⟨_, _, idx_hit h hlt o⟩
  · have e : x = n := by omega
    subst e
    exact ⟨_, _, look_none 54 3 _ Try.underlying54 (zero3 _) (h.map.alloc o) ((h.blk x hx).alloc o) (fun p hp => ⟨(idx_keys h p hp).1.alloc o, (idx_keys h p hp).2⟩)⟩
theorem dst_hit {s D sb : Nat} (hm : PMap w s [(r + 1 + D, .slice (some ⟨sb, 0, none⟩) n n)]) (hb : Blk w (r + 1 + D)) (o : Obj) : (Instr.lookup 64 (.map (some s)) (np (r + 1 + D)) true).run Try.prog (w.alloc o) = .ok (.tuple #[.slice (some ⟨sb, 0, none⟩) n n, .bool true]) (w.alloc o) := by
  refine look_some 64 65 _ Try.underlying64 (hm.alloc o) (hb.alloc o) (fun p hp => ?_) ⟨_, List.mem_singleton.2 rfl, rfl⟩
  rw [List.mem_singleton] at hp
  subst hp
  exact ⟨hb.alloc o, fun _ => rfl⟩

theorem ask_out (h : Built n P d B C pb nb lb r LB w) (hd : ¬ (0 ≤ d ∧ d < n)) {x : Nat} (hx : x ≤ n) :
    Calls Try.prog 8 #[np pb, np (r + 1 + x), np (r + 1 + n)] w fun e w' => e = .returned (.tuple #[zeroPath, .bool false]) ∧ Below w.heap.size w w' := by
  obtain ⟨s, hs, h1 | ⟨D, sb, G, e, hD, _⟩⟩ := h.sp
  · obtain ⟨v, b, hi⟩ := idx_any h.no hx (.cells #[.int .i64 0, .float .f64 0, .int .i64 0, .pointer none, .pointer none] 38)
    exact path_noDest pb r s (r + 1 + x) (r + 1 + n) w h.c0 hs v b [] h1.2 (fun p hp => by simp at hp) (h.no.blk n (Nat.le_refl _)) hi
  · exact absurd ⟨by omega, by omega⟩ hd

theorem ask_from {D : Nat} (h : Built n P D B C pb nb lb r LB w) (hD : D < n) :
    Calls Try.prog 8 #[np pb, np (r + 1 + n), np (r + 1 + D)] w fun e w' => e = .returned (.tuple #[zeroPath, .bool false]) ∧ Below w.heap.size w w' := by
  obtain ⟨s, hs, h1 | ⟨D', sb, G, e, hD', hm, _⟩⟩ := h.sp
  · exact absurd ⟨by omega, by omega⟩ h1.1
  · have e : D' = D := by omega
    subst e
    exact path_noFrom pb r s (r + 1 + n) (r + 1 + D') w h.c0 hs _ _ h.no.map (idx_keys h.no) (h.no.blk n (Nat.le_refl _)) (dst_hit hm (h.no.blk D' (Nat.le_of_lt hD)) _)

theorem ask_none {D : Nat} (h : Built n P D B C pb nb lb r LB w) (hn : n ≤ 4096) (hD : D < n) {x : Nat} (hx : x < n) (hno : ∀ l, ¬ IsCh n D P l x) :
    Calls Try.prog 8 #[np pb, np (r + 1 + x), np (r + 1 + D)] w fun e w' => e = .returned (.tuple #[zeroPath, .bool false]) ∧ Below w.heap.size w w' := by
  obtain ⟨s, hs, h1 | ⟨D', sb, G, e, hD', hm, hr, hg⟩⟩ := h.sp
  · exact absurd ⟨by omega, by omega⟩ h1.1
  · have e : D' = D := by omega
    subst e
    rcases hg x hx with ⟨l, g, _, h2, _⟩ | ⟨h1, _⟩
    · exact absurd h2 (hno l)
    · exact path_nil pb r s (r + 1 + x) (r + 1 + D') sb n x w h.c0 hs hx hn (hr.cell' hx (by rw [h1]; rfl)) (idx_hit h.no hx _) (dst_hit hm (h.no.blk D' (Nat.le_of_lt hD)) _)

theorem ask_some {D : Nat} (h : Built n P D B C pb nb lb r LB w) (hn : n ≤ 4096) (hD : D < n) {x : Nat} (hx : x < n) {l : List Nat} (hl : IsCh n D P l x) :
    ∃ g, Steps w LB l g ∧ Calls Try.prog 8 #[np pb, np (r + 1 + x), np (r + 1 + D)] w fun e w' => e = .returned (.tuple #[.agg (pathC (clL C l) (bwL B l) l.length (some ⟨g, 0, none⟩) none), .bool true]) ∧ Below w.heap.size w w' := by
  obtain ⟨s, hs, h1 | ⟨D', sb, G, e, hD', hm, hr, hg⟩⟩ := h.sp
  · exact absurd ⟨by omega, by omega⟩ h1.1
  · have e : D' = D := by omega
    subst e
    rcases hg x hx with ⟨l', g, h1, h2, h3⟩ | ⟨_, h1⟩
    · have el := h2.uniq hl
      subst el
      refine ⟨g, h3.steps, ?_⟩
      have hc := hr.cell' hx (v := np g) (by rw [h1]; rfl)
      have hi := idx_hit h.no hx (.cells (pathC 0 0 0 none none) 38)
      have ht := dst_hit hm (h.no.blk D' (Nat.le_of_lt hD)) (.cells (pathC 0 0 0 none none) 38)
      obtain ⟨h4, h5, h6⟩ := h3.cells
      cases l' with
      | nil => exact path_self pb r s (r + 1 + x) (r + 1 + D') sb n x g 0 w h.c0 hs hx hn hc (h3.cell rfl) h5 hi ht
      | cons j l =>
        obtain ⟨g', h7, _⟩ := h3
        exact path_link pb r s (r + 1 + x) (r + 1 + D') sb n x g (LB j) _ _ _ w h.c0 hs hx hn hc (h7.cell rfl) h4 h5 h6 hi ht
    · exact absurd hl (h1 l)
end
end Go.Proofs.Qxb6613771a
