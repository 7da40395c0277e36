/-
  buildPaths: the nodes, the links, the steps.
-/
import Derived.Test.Qxb6613771aRange
namespace Go.Proofs.Qxb6613771a
open Go.RowKit
set_option linter.unusedVariables false

set_option maxRecDepth 100000 in
set_option maxHeartbeats 4000000 in
theorem build_any (a0 : Option Addr) (n c0 : Nat) (P : Nat → Int) (a1 : Option Addr) (l1 c1 : Nat) (F1 : Nat → Nat) (a2 : Option Addr) (l2 c2 : Nat) (F2 : Nat → Int) (d : Int) (w : World)
    (hn : n ≤ 4096) (hl1 : l1 ≤ 4096) (hl2 : l2 ≤ 4096) (h0 : Nums w a0 n (fun i => .int .i64 (P i))) (h1 : Nums w a1 l1 (fun i => .float .f64 (F1 i))) (h2 : Nums w a2 l2 (fun i => .int .i64 (F2 i))) :
    Calls Try.prog 7 #[.slice a0 n c0, .slice a1 l1 c1, .slice a2 l2 c2, .int .i64 d] w fun e w' => BuildPost n P d (bwV l1 F1) (clV l2 F2) w e w' := by
  obtain ⟨i30, hi30, hz30, hs30, hb30⟩ := info_parts Try.info30
  obtain ⟨i44, hi44, hz44, hs44, hb44⟩ := info_parts Try.info44
  have hby30 : i30.bytes * n ≤ 281474976710656 := by rw [hb30]; omega
  have hby44 : i44.bytes * n ≤ 281474976710656 := by rw [hb44]; omega
  have hml : n ≤ maxLen := by unfold maxLen; omega
  have hmm := @run_makeMap Try.prog
  go_enter Try.func7, Try.ntmps7
  go_upto_block 0 with (first | (at_make; refine wpList_make_full _ (by rfl) (.tmp 38) (.tmp 38) 28 (by rfl) w.heap.size 30 i30 (.pointer none) 1 Try.underlying28 hi30 hz30 hs30 .i64 .i64 n n n (by rfl) (by rfl) (by rfl) (by rfl) hby30 hml (Nat.le_refl _) ?_; intro w1 hown1 hgr1))
  have hrow1 : Row w1 w.heap.size 30 (fun _ => .pointer none) n := Row.made rfl hown1
  have hb1 : Below w.heap.size w w1 := (Below.refl _ _).grown hgr1 (Nat.le_refl _) (fun j hj => by simp at hj)
  clear hown1 hgr1
  have hb2 := hb1.alloc (Nat.le_of_lt hrow1.lt) (.map #[] 0)
  have hrow2 := hrow1.alloc (.map #[] 0)
  have hlt1 := hrow1.lt
  have hpm : PMap (w1.alloc (.map #[] 0)) w1.heap.size [] := ⟨#[], 0, heap_alloc_new w1 _, rfl⟩
  refine loop1 _ rfl _ n w.heap.size w1.heap.size w (w1.alloc (.map #[] 0)) hn hrow2 hpm (by simp) hlt1 hb2 _ _ _ _ _ _ _ _ _ _ _ _ _ _ _ _ _ _ _ _ _ _ _ _ _ _ _ _ _ _ _ _ _ _ _ _ _ _ _ _ _ _ _ _ _ _ _ _ _ _ _ _ _ _ _ _ _ _ _ _ _ _ _ _ _ _ _ _ _ _ _ _ _ _ _ _ _ _ _ _ _ _ _ _ _ _ _ _ _ _ _ _ _ _ _ _ _ _ _ _ _ _ _ _ _ _ _ _ _ _ _ _ _ _ _ _ _ _ _ _ _ _ _ _ _ _ _ _ _ _ _ _ _ _ _ _ _ _ _ _ _ _ _ _ _ _ _ _ _ _ _ _ _ _ _ _ _ _ _ _ _ _ _ _ _ _ _ _ _ _ _ _ _ _ _ _ _ _ _ _ _ _ _ _ _ _ _ _ _ _ _ _ _ _ _ _ _ _ _ _ _ _ _ _ _ _ _ _ _ _ _ _ _ _ _ _ _ _ _ _ _ _ _ _ _ _ _ _ _ _ _ _ _ _ _ _ _ _ _ _ _ _ _ _ _ _ _ _ _ _ _ _ _ _ _ _ _ _ _ ?_
  intro y15 y41 y42 y43 y44 y45 y46 y47 y48 y49 y50 y51 y52 y53 y54 y55 y56 w2 hout1
  obtain ⟨hrow', hm, hsz, hblk, hbr⟩ := hout1
  clear hpm hrow1 hrow2 hb1 hb2
  go_upto_region 9 with fail
  go_cut [16] (fun v wx => v = np (w1.heap.size + 1 + n) ∧ NodesOk n w.heap.size w1.heap.size wx ∧ Below w.heap.size w wx)
  case first =>
    go_wp2_with fail
    go_meet
    case rel =>
      refine ⟨rfl, ⟨hrow'.alloc _, hm.alloc _, fun j hj => ?_, hlt1, by simp; omega⟩, hbr.alloc (by omega) _⟩
      by_cases e : j = n
      · rw [e, ← hsz]; exact Blk.new w2 _ 62
      · exact (hblk j (by omega)).alloc _
  case rest =>
    rename World => wx
    obtain ⟨rfl, hno, hbx⟩ := hcut
    clear hrow' hm hsz hblk hbr
    obtain ⟨r, hr⟩ : ∃ r, r = w1.heap.size := ⟨_, rfl⟩
    rw [← hr] at hno hlt1
    simp only [← hr]
    clear hr
    have hltx : w.heap.size ≤ wx.heap.size := hbx.size
    go_upto_block 2 with (first | (at_make; refine wpList_make_full _ (by rfl) (.tmp 59) (.tmp 59) 29 (by rfl) wx.heap.size 44 i44 (.pointer none) 1 Try.underlying29 hi44 hz44 hs44 .i64 .i64 n n n (by rfl) (by rfl) (by rfl) (by rfl) hby44 hml (Nat.le_refl _) ?_; intro w4 hown4 hgr4))
    have hrow4 : Row w4 wx.heap.size 44 (fun _ => .pointer none) n := Row.made rfl hown4
    have hb4 : Below wx.heap.size wx w4 := (Below.refl _ _).grown hgr4 (Nat.le_refl _) (fun j hj => by simp at hj)
    clear hown4 hgr4
    refine loop2 _ rfl _ n w.heap.size r wx.heap.size P a0 a1 c0 l1 c1 F1 d wx w4 hn hl1 (h0.below hbx) (h1.below hbx) hno rfl hrow4 hb4 _ _ _ _ _ _ _ _ _ _ _ _ _ _ _ _ _ _ _ _ _ _ _ _ _ _ _ _ _ _ _ _ _ _ _ _ _ _ _ _ _ _ _ _ _ _ _ _ _ _ _ _ _ _ _ _ _ _ _ _ _ _ _ _ _ _ _ _ _ _ _ _ _ _ _ _ _ _ _ _ _ _ _ _ _ _ _ _ _ _ _ _ _ _ _ _ _ _ _ _ _ _ _ _ _ _ _ _ _ _ _ _ _ _ _ _ _ _ _ _ _ _ _ _ _ _ _ _ _ _ _ _ _ _ _ _ _ _ _ _ _ _ _ _ _ _ _ _ _ _ _ _ _ _ _ _ _ _ _ _ _ _ _ _ _ _ _ _ _ _ _ _ _ _ _ _ _ _ _ _ _ _ _ _ _ _ _ _ _ _ _ _ _ _ _ _ _ _ _ _ _ _ _ _ _ _ _ _ _ _ _ _ _ _ _ _ _ _ _ _ _ _ _ _ _ _ _ _ _ _ _ _ _ _ _ _ _ _ _ _ _ _ _ _ _ _ _ _ _ _ _ _ _ _ _ _ ?_
    intro z18 z19 z61 z62 z63 z64 z65 z66 z67 z68 z69 z70 z71 z72 z73 z74 z75 z76 z77 z78 z79 z80 z81 z82 z83 z84 z85 z86 z87 z88 z89 z90 z91 z92 z93 z94 z95 z96 z97 wr hout2
    obtain ⟨LB, hlk, hbr⟩ := hout2
    clear hrow4 hb4
    have hlw : w.heap.size ≤ wr.heap.size := Nat.le_trans hltx hbr.size
    have hbw : Below w.heap.size w wr := hbx.trans (hbr.mono hltx)
    have hno5 := hno.below hbr
    have hb56 : Below wr.heap.size wr (wr.alloc (.map #[] 0)) := (Below.refl _ _).alloc (Nat.le_refl _) (.map #[] 0)
    have hbw6 := hbw.alloc hlw (.map #[] 0)
    have hpm6 : PMap (wr.alloc (.map #[] 0)) wr.heap.size [] := ⟨#[], 0, heap_alloc_new wr _, rfl⟩
    clear hno hbr hbx hlt1 hltx
    by_cases hin : 0 ≤ d ∧ d < n
    · obtain ⟨D, hD⟩ : ∃ D : Nat, d = D := ⟨d.toNat, by omega⟩
      subst hD
      have hDn : D < n := by omega
      have hD0 : (0 : Int) ≤ D := hin.1
      have hD1 : (D : Int) < n := hin.2
      clear hin
      obtain ⟨b0, o0, rfl, hb0, hc0⟩ := h0 (by omega)
      have HC : Hid (∀ j, j < n → (wr.alloc (.map #[] 0)).cell? ⟨b0, o0 + j, none⟩ = some (.int .i64 (P j))) := fun j hj => (hbw6.cell (p := ⟨b0, o0 + j, none⟩) hb0).trans (hc0 j hj)
      clear hc0
      go_upto_if 105 with fail
      refine inRange _ rfl _ n D w.heap.size r wx.heap.size wr.heap.size P a1 a2 l1 c1 l2 c2 F1 F2 LB b0 o0 c0 wr (wr.alloc (.map #[] 0)) hn hl1 hl2 hDn (by omega) HC.out (h1.below hbw6) (h2.below hbw6) hno5 hlk rfl hb56 (by simp) hpm6 _ _ _ _ _ _ _ _ _ _ _ _ _ _ _ _ _ _ _ _ _ _ _ _ _ _ _ _ _ _ _ _ _ _ _ _ _ _ _ _ _ _ _ _ _ _ _ _ _ _ _ _ _ _ _ _ _ _ _ _ _ _ _ _ _ _ _ _ _ _ _ _ _ _ _ _ _ _ _ _ _ _ _ _ _ _ _ _ _ _ _ _ _ _ _ _ _ _ _ _ _ _ _ _ _ _ _ _ _ _ _ _ _ _ _ _ _ _ _ _ _ _ _ _ _ _ _ _ _ _ _ _ _ _ _ _ _ _ _ _ _ _ _ _ _ _ _ _ _ _ _ _ _ _ _ _ _ _ _ _ _ _ _ _ _ _ _ _ _ _ _ _ _ _ _ _ _ _ _ _ _ _ _ _ _ _ _ _ _ _ _ _ _ _ _ _ _ _ _ _ _ _ _ _ _ _ _ _ _ _ _ _ _ _ _ _ _ _ _ _ _ _ _ _ _ _ _ _ _ _ _ _ _ _ _ _ _ _ _ _ _ _ _ _ _ _ _ _ _ _ _ _ _ _ ?_
      intro t21 t22 t23 t24 t25 t26 t27 t28 t29 t30 t31 t32 t33 t34 t35 t106 t107 t108 t109 t110 t111 t112 t113 t114 t115 t116 t117 t118 t119 t120 t121 t122 t123 t124 t125 t126 t127 t128 t129 t130 t131 t132 t133 t134 t135 t136 t137 t138 t139 t140 t141 t142 t143 t144 t145 t146 t147 t148 t149 t150 t151 t152 t153 t154 t155 t156 t157 t158 t159 t160 t161 t162 t163 t164 t165 t166 t167 t168 t169 t170 t171 t172 t173 t174 t175 t176 t177 t178 t179 t180 t181 t182 t183 t184 t185 t186 t187 t188 t189 t190 t191 t192 t193 t194 t195 t196 t197 t198 t199 t200 t201 t202 t203 t204 t205 t206 t207 t208 t209 t210 t211 t212 t213 t214 t215 t216 t217 t218 t219 t220 t221 t222 t223 t224 t225 t226 t227 t228 t229 t230 t231 t232 t233 t234 t235 t236 t237 t238 t239 t240 t241 t242 t243 t244 t245 t246 t247 t248 t249 t250 t251 t252 t253 t254 t255 t256 w7 hout7
      obtain ⟨hno7, hlk7, hb7, sb, G, hpm7, hrow7, hg7⟩ := hout7
      have hb8 : ∀ o, Below w7.heap.size w7 (w7.alloc o) := fun o => (Below.refl _ _).alloc (Nat.le_refl _) o
      have hbw7 : Below w.heap.size w w7 := hbw.trans (hb7.mono hlw)
      have hfin : BuildPost n P D (bwV l1 F1) (clV l2 F2) w (.returned (.tuple #[np w7.heap.size, .slice (some ⟨w.heap.size, 0, none⟩) n n, .slice (some ⟨wx.heap.size, 0, none⟩) n n, np (r + 1 + n)])) (w7.alloc (.cells #[.map (some r), .map (some wr.heap.size)] 72)) :=
        ⟨_, _, _, _, LB, rfl, ⟨hno7.below (hb8 _), hlk7.below (hb8 _), cell_new_k rfl rfl, wr.heap.size, cell_new_k rfl rfl, .inr ⟨D, sb, G, rfl, hDn, hpm7.alloc _, hrow7.alloc _, fun j hj => by
          rcases hg7 j hj with ⟨l, g, h1, h2, h3⟩ | h1
          · exact .inl ⟨l, g, h1, h2, h3.keep (K75.alloc _ _)⟩
          · exact .inr h1⟩⟩, hbw7.alloc hbw7.size _⟩
      clear hno7 hlk7 hb7 hpm7 hrow7 hg7 hb8 hbw7 hno5 hlk hb56 hpm6 hbw6 hbw
      go_wp2_with (first | (go_at_call 18; refine (newPaths_any r wr.heap.size _).mono ?_; rintro e w' ⟨rfl, rfl⟩))
      refine bodyPost_ret (results_tmp4 rfl _ _ _) rfl ?_
      exact hfin
    · have hb7 : ∀ o, Below (wr.alloc (.map #[] 0)).heap.size (wr.alloc (.map #[] 0)) ((wr.alloc (.map #[] 0)).alloc o) := fun o => (Below.refl _ _).alloc (Nat.le_refl _) o
      have hno6 := hno5.below hb56
      have hlk6 := hlk.below hb56
      have hfin : BuildPost n P d (bwV l1 F1) (clV l2 F2) w (.returned (.tuple #[np (wr.heap.size + 1), .slice (some ⟨w.heap.size, 0, none⟩) n n, .slice (some ⟨wx.heap.size, 0, none⟩) n n, np (r + 1 + n)])) ((wr.alloc (.map #[] 0)).alloc (.cells #[.map (some r), .map (some wr.heap.size)] 72)) :=
        ⟨_, _, _, _, LB, rfl, ⟨hno6.below (hb7 _), hlk6.below (hb7 _), cell_new_k (by simp) rfl, wr.heap.size, cell_new_k (by simp) rfl, .inl ⟨hin, hpm6.alloc _⟩⟩, hbw6.alloc (by simp; omega) _⟩
      clear hno5 hno6 hlk6 hpm6 hbw6 hb7 hlk hb56
      by_cases hneg : d < 0
      · clear hin
        go_wp2_with (first | (go_at_call 18; refine (newPaths_any r wr.heap.size _).mono ?_; rintro e w' ⟨rfl, rfl⟩))
        refine bodyPost_ret (results_tmp4 rfl _ _ _) rfl ?_
        exact hfin
      · have hge : (n : Int) ≤ d := by omega
        clear hin
        go_wp2_with (first | (go_at_call 18; refine (newPaths_any r wr.heap.size _).mono ?_; rintro e w' ⟨rfl, rfl⟩))
        refine bodyPost_ret (results_tmp4 rfl _ _ _) rfl ?_
        exact hfin
end Go.Proofs.Qxb6613771a
