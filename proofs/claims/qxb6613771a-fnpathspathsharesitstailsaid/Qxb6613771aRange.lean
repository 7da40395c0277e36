/-
  buildPaths, where dest is one of the nodes: the five rows, the search, and the map of steps.
-/
import Derived.Test.Qxb6613771aLoop12
namespace Go.Proofs.Qxb6613771a
open Go.RowKit
set_option linter.unusedVariables false

/-- The branch on slot k. -/
def ifc? (k : Nat) : Code → Option Code
  | .cond (.tmp s) t e => if s = k then some (.cond (.tmp s) t e) else match ifc? k t with
    | some c => some c
    | none => ifc? k e
  | .block _ b => ifc? k b
  | .seq a b => match ifc? k a with
    | some c => some c
    | none => ifc? k b
  | .loop b => ifc? k b
  | _ => none

theorem K75.put {w w' : World} {b : Nat} {kv : List (Nat × Value)} (h : PMap w b kv) (hg : w.grownBy w' (some b)) : K75 w w' := fun g c hs => by
  refine (hg.block g hs.lt ?_).trans hs
  rintro e
  have e : g = b := Option.some.inj e
  subst e
  obtain ⟨es, k, h, _⟩ := h
  unfold SB at hs
  rw [hs] at h
  cases h

/-- What the branch leaves. -/
def OutR (n D : Nat) (P : Nat → Int) (B : Nat → Nat) (C : Nat → Int) (nb r lb : Nat) (LB : Nat → Nat) (mb : Nat) (wr w' : World) : Prop :=
  NodesOk n nb r w' ∧ LinksOk n P D B r lb LB n w' ∧ Below mb wr w' ∧ ∃ (sb : Nat) (G : Nat → Option Nat), PMap w' mb [(r + 1 + D, .slice (some ⟨sb, 0, none⟩) n n)] ∧ Row w' sb 35 (fun i => gp (G i)) n ∧
      ∀ j, j < n → (∃ l g, G j = some g ∧ IsCh n D P l j ∧ Ch w' B C LB l g) ∨ (G j = none ∧ ∀ l, ¬ IsCh n D P l j)

set_option maxRecDepth 100000 in
set_option maxHeartbeats 4000000 in
theorem inRange (cd : Code) (hcd : Try.f7.body.bind (ifc? 105) = some cd) (Q : Exit → Act → World → Prop) (n D nb r lb mb : Nat) (P : Nat → Int) (a1 a2 : Option Addr) (l1 c1 l2 c2 : Nat) (F1 : Nat → Nat) (F2 : Nat → Int) (LB : Nat → Nat) (b0 o0 c0 : Nat) (wr w6 : World)
    (hn : n ≤ 4096) (hl1 : l1 ≤ 4096) (hl2 : l2 ≤ 4096) (hDn : D < n)
    (hb0 : b0 < mb) (hc0 : ∀ j, j < n → w6.cell? ⟨b0, o0 + j, none⟩ = some (.int .i64 (P j)))
    (hnB : Nums w6 a1 l1 (fun i => .float .f64 (F1 i))) (hnC : Nums w6 a2 l2 (fun i => .int .i64 (F2 i)))
    (hno : NodesOk n nb r wr) (hlk : LinksOk n P D (bwV l1 F1) r lb LB n wr) (hwr : wr.heap.size = mb) (hb6 : Below mb wr w6) (hs6 : mb < w6.heap.size) (hpm6 : PMap w6 mb [])
    (x4 x5 x6 x7 x8 x9 x10 x11 x14 x15 x16 x18 x19 x21 x22 x23 x24 x25 x26 x27 x28 x29 x30 x31 x32 x33 x34 x35 x36 x37 x38 x39 x40 x41 x42 x43 x44 x45 x46 x47 x48 x49 x50 x51 x52 x53 x54 x55 x56 x57 x58 x59 x60 x61 x62 x63 x64 x65 x66 x67 x68 x69 x70 x71 x72 x73 x74 x75 x76 x77 x78 x79 x80 x81 x82 x83 x84 x85 x86 x87 x88 x89 x90 x91 x92 x93 x94 x95 x96 x97 x98 x99 x100 x101 x102 x103 x104 x106 x107 x108 x109 x110 x111 x112 x113 x114 x115 x116 x117 x118 x119 x120 x121 x122 x123 x124 x125 x126 x127 x128 x129 x130 x131 x132 x133 x134 x135 x136 x137 x138 x139 x140 x141 x142 x143 x144 x145 x146 x147 x148 x149 x150 x151 x152 x153 x154 x155 x156 x157 x158 x159 x160 x161 x162 x163 x164 x165 x166 x167 x168 x169 x170 x171 x172 x173 x174 x175 x176 x177 x178 x179 x180 x181 x182 x183 x184 x185 x186 x187 x188 x189 x190 x191 x192 x193 x194 x195 x196 x197 x198 x199 x200 x201 x202 x203 x204 x205 x206 x207 x208 x209 x210 x211 x212 x213 x214 x215 x216 x217 x218 x219 x220 x221 x222 x223 x224 x225 x226 x227 x228 x229 x230 x231 x232 x233 x234 x235 x236 x237 x238 x239 x240 x241 x242 x243 x244 x245 x246 x247 x248 x249 x250 x251 x252 x253 x254 x255 x256 x257 x258 x259 x260 x261 x262 : Value)
    (hQ : ∀ (y21 y22 y23 y24 y25 y26 y27 y28 y29 y30 y31 y32 y33 y34 y35 y106 y107 y108 y109 y110 y111 y112 y113 y114 y115 y116 y117 y118 y119 y120 y121 y122 y123 y124 y125 y126 y127 y128 y129 y130 y131 y132 y133 y134 y135 y136 y137 y138 y139 y140 y141 y142 y143 y144 y145 y146 y147 y148 y149 y150 y151 y152 y153 y154 y155 y156 y157 y158 y159 y160 y161 y162 y163 y164 y165 y166 y167 y168 y169 y170 y171 y172 y173 y174 y175 y176 y177 y178 y179 y180 y181 y182 y183 y184 y185 y186 y187 y188 y189 y190 y191 y192 y193 y194 y195 y196 y197 y198 y199 y200 y201 y202 y203 y204 y205 y206 y207 y208 y209 y210 y211 y212 y213 y214 y215 y216 y217 y218 y219 y220 y221 y222 y223 y224 y225 y226 y227 y228 y229 y230 y231 y232 y233 y234 y235 y236 y237 y238 y239 y240 y241 y242 y243 y244 y245 y246 y247 y248 y249 y250 y251 y252 y253 y254 y255 y256 : Value) (w' : World), OutR n D P (bwV l1 F1) (clV l2 F2) nb r lb LB mb wr w' → Q .normal { tmps := #[.slice (some ⟨b0, o0, none⟩) n c0, .slice a1 l1 c1, .slice a2 l2 c2, .int .i64 D, x4, x5, x6, x7, x8, x9, x10, x11, .int .i64 n, .slice (some ⟨nb, 0, none⟩) n n, x14, x15, x16, .slice (some ⟨lb, 0, none⟩) n n, x18, x19, .map (some mb), y21, y22, y23, y24, y25, y26, y27, y28, y29, y30, y31, y32, y33, y34, y35, x36, x37, x38, x39, x40, x41, x42, x43, x44, x45, x46, x47, x48, x49, x50, x51, x52, x53, x54, x55, x56, x57, x58, x59, x60, x61, x62, x63, x64, x65, x66, x67, x68, x69, x70, x71, x72, x73, x74, x75, x76, x77, x78, x79, x80, x81, x82, x83, x84, x85, x86, x87, x88, x89, x90, x91, x92, x93, x94, x95, x96, x97, x98, x99, x100, x101, x102, x103, x104, .bool true, y106, y107, y108, y109, y110, y111, y112, y113, y114, y115, y116, y117, y118, y119, y120, y121, y122, y123, y124, y125, y126, y127, y128, y129, y130, y131, y132, y133, y134, y135, y136, y137, y138, y139, y140, y141, y142, y143, y144, y145, y146, y147, y148, y149, y150, y151, y152, y153, y154, y155, y156, y157, y158, y159, y160, y161, y162, y163, y164, y165, y166, y167, y168, y169, y170, y171, y172, y173, y174, y175, y176, y177, y178, y179, y180, y181, y182, y183, y184, y185, y186, y187, y188, y189, y190, y191, y192, y193, y194, y195, y196, y197, y198, y199, y200, y201, y202, y203, y204, y205, y206, y207, y208, y209, y210, y211, y212, y213, y214, y215, y216, y217, y218, y219, y220, y221, y222, y223, y224, y225, y226, y227, y228, y229, y230, y231, y232, y233, y234, y235, y236, y237, y238, y239, y240, y241, y242, y243, y244, y245, y246, y247, y248, y249, y250, y251, y252, y253, y254, y255, y256, x257, x258, x259, x260, x261, x262], defers := [] } w') :
    cd.wp Try.prog Q { tmps := #[.slice (some ⟨b0, o0, none⟩) n c0, .slice a1 l1 c1, .slice a2 l2 c2, .int .i64 D, x4, x5, x6, x7, x8, x9, x10, x11, .int .i64 n, .slice (some ⟨nb, 0, none⟩) n n, x14, x15, x16, .slice (some ⟨lb, 0, none⟩) n n, x18, x19, .map (some mb), x21, x22, x23, x24, x25, x26, x27, x28, x29, x30, x31, x32, x33, x34, x35, x36, x37, x38, x39, x40, x41, x42, x43, x44, x45, x46, x47, x48, x49, x50, x51, x52, x53, x54, x55, x56, x57, x58, x59, x60, x61, x62, x63, x64, x65, x66, x67, x68, x69, x70, x71, x72, x73, x74, x75, x76, x77, x78, x79, x80, x81, x82, x83, x84, x85, x86, x87, x88, x89, x90, x91, x92, x93, x94, x95, x96, x97, x98, x99, x100, x101, x102, x103, x104, .bool true, x106, x107, x108, x109, x110, x111, x112, x113, x114, x115, x116, x117, x118, x119, x120, x121, x122, x123, x124, x125, x126, x127, x128, x129, x130, x131, x132, x133, x134, x135, x136, x137, x138, x139, x140, x141, x142, x143, x144, x145, x146, x147, x148, x149, x150, x151, x152, x153, x154, x155, x156, x157, x158, x159, x160, x161, x162, x163, x164, x165, x166, x167, x168, x169, x170, x171, x172, x173, x174, x175, x176, x177, x178, x179, x180, x181, x182, x183, x184, x185, x186, x187, x188, x189, x190, x191, x192, x193, x194, x195, x196, x197, x198, x199, x200, x201, x202, x203, x204, x205, x206, x207, x208, x209, x210, x211, x212, x213, x214, x215, x216, x217, x218, x219, x220, x221, x222, x223, x224, x225, x226, x227, x228, x229, x230, x231, x232, x233, x234, x235, x236, x237, x238, x239, x240, x241, x242, x243, x244, x245, x246, x247, x248, x249, x250, x251, x252, x253, x254, x255, x256, x257, x258, x259, x260, x261, x262], defers := [] } w6 := by
  have hc' : Try.f7.body.bind (ifc? 105) = some _ := rfl
  cases hc'.symm.trans hcd
  clear hcd hc'
  have HW : Hid (wr.heap.size = mb) := hwr
  have HC : Hid (∀ j, j < n → w6.cell? ⟨b0, o0 + j, none⟩ = some (.int .i64 (P j))) := hc0
  have hlk6 := hlk.below (w' := w6) (by rw [hwr]; exact hb6)
  have hlbm : lb < mb := by rw [← hwr]; exact hlk.row.lt
  have HK : Hid (∀ j, j < n → j ≠ D → 0 ≤ P j → P j < n → w6.cell? ⟨lb, j, none⟩ = some (np (LB j))) := fun j hj h1 h2 h3 => hlk6.row.cell' hj (by
    have : linked n P D j := ⟨by omega, h2, h3⟩
    simp [hj, this])
  clear hwr hc0 hlk6
  have HNO : Hid (NodesOk n nb r wr) := hno
  have HLK : Hid (LinksOk n P D (bwV l1 F1) r lb LB n wr) := hlk
  have HPM : Hid (PMap w6 mb []) := hpm6
  have HB6 : Hid (Below mb wr w6) := hb6
  clear hno hlk hpm6 hb6
  obtain ⟨i35, hi35, hz35, hs35, hb35⟩ := info_parts Try.info35
  obtain ⟨i34, hi34, hz34, hs34, hb34⟩ := info_parts Try.info34
  obtain ⟨i3, hi3, hz3, hs3, hb3⟩ := info_parts Try.info3
  have hml : n ≤ maxLen := by unfold maxLen; omega
  have hby35 : i35.bytes * n ≤ 281474976710656 := by rw [hb35]; omega
  have hby34 : i34.bytes * n ≤ 281474976710656 := by rw [hb34]; omega
  have hby3 : i3.bytes * n ≤ 281474976710656 := by rw [hb3]; omega
  go_upto_region 24 with (first
    | (at_make; refine wpList_make_full _ (by rfl) (.tmp 106) (.tmp 106) 65 (by rfl) 0 35 i35 (.pointer none) 1 Try.underlying65 hi35 hz35 hs35 .i64 .i64 n n n (by rfl) (by rfl) (by rfl) (by rfl) hby35 hml (Nat.zero_le _) ?_; intro w7 hown7 hgr7)
    | (at_make; refine wpList_make_full _ (by rfl) (.tmp 108) (.tmp 108) 25 (by rfl) 0 34 i34 (.float .f64 0) 1 Try.underlying25 hi34 hz34 hs34 .i64 .i64 n n n (by rfl) (by rfl) (by rfl) (by rfl) hby34 hml (Nat.zero_le _) ?_; intro w8 hown8 hgr8)
    | (at_make; refine wpList_make_full _ (by rfl) (.tmp 110) (.tmp 110) 24 (by rfl) 0 3 i3 (.int .i64 0) 1 Try.underlying24 hi3 hz3 hs3 .i64 .i64 n n n (by rfl) (by rfl) (by rfl) (by rfl) hby3 hml (Nat.zero_le _) ?_; intro w9 hown9 hgr9)
    | (at_make; refine wpList_make_full _ (by rfl) (.tmp 112) (.tmp 112) 24 (by rfl) 0 3 i3 (.int .i64 0) 1 Try.underlying24 hi3 hz3 hs3 .i64 .i64 n n n (by rfl) (by rfl) (by rfl) (by rfl) hby3 hml (Nat.zero_le _) ?_; intro w10 hown10 hgr10)
    | (at_make; refine wpList_make_full _ (by rfl) (.tmp 114) (.tmp 114) 24 (by rfl) 0 3 i3 (.int .i64 0) 1 Try.underlying24 hi3 hz3 hs3 .i64 .i64 n n n (by rfl) (by rfl) (by rfl) (by rfl) hby3 hml (Nat.zero_le _) ?_; intro w11 hown11 hgr11))
  have hr7 : Row w7 w6.heap.size 35 (fun _ => .pointer none) n := Row.made rfl hown7
  have hr8 : Row w8 w7.heap.size 34 (fun _ => .float .f64 0) n := Row.made rfl hown8
  have hr9 : Row w9 w8.heap.size 3 (fun _ => .int .i64 0) n := Row.made rfl hown9
  have hr10 : Row w10 w9.heap.size 3 (fun _ => .int .i64 0) n := Row.made rfl hown10
  have hr11 : Row w11 w10.heap.size 3 (fun _ => .int .i64 0) n := Row.made rfl hown11
  have hlt7 := hr7.lt
  have hlt8 := hr8.lt
  have hlt9 := hr9.lt
  have hlt10 := hr10.lt
  have hlt11 := hr11.lt
  have h5 : R5 n w6.heap.size w7.heap.size w8.heap.size w9.heap.size w10.heap.size w11 (fun _ => .pointer none) (fun _ => .float .f64 0) (fun _ => .int .i64 0) (fun _ => .int .i64 0) (fun _ => .int .i64 0) :=
    ⟨⟨hlt7, hlt8, hlt9, hlt10⟩, hr7.grown (((hgr8.trans hgr9).trans hgr10).trans hgr11) (by simp), hr8.grown ((hgr9.trans hgr10).trans hgr11) (by simp), hr9.grown (hgr10.trans hgr11) (by simp), hr10.grown hgr11 (by simp), hr11⟩
  have hg611 := (((hgr7.trans hgr8).trans hgr9).trans hgr10).trans hgr11
  have hb611 : Below w6.heap.size w6 w11 := (Below.refl _ _).grown hg611 (Nat.le_refl _) (fun j hj => by simp at hj)
  obtain ⟨sb, hsb⟩ : ∃ x, x = w6.heap.size := ⟨_, rfl⟩
  obtain ⟨bb, hbb⟩ : ∃ x, x = w7.heap.size := ⟨_, rfl⟩
  obtain ⟨cb, hcb⟩ : ∃ x, x = w8.heap.size := ⟨_, rfl⟩
  obtain ⟨hb, hhb⟩ : ∃ x, x = w9.heap.size := ⟨_, rfl⟩
  obtain ⟨tb, htb⟩ : ∃ x, x = w10.heap.size := ⟨_, rfl⟩
  have HS : Hid (w6.heap.size = sb) := hsb.symm
  rw [← hbb, ← hcb, ← hhb, ← htb, ← hsb] at h5
  rw [← hsb] at hb611 hs6
  simp only [← hbb, ← hcb, ← hhb, ← htb, ← hsb]
  clear hg611 hgr7 hgr8 hgr9 hgr10 hgr11 hown7 hown8 hown9 hown10 hown11 hr7 hr8 hr9 hr10 hr11 hlt7 hlt8 hlt9 hlt10 hlt11 hbb hcb hhb htb hsb
  have hfl := float_store
  go_cut [21] from 106 to 256 (fun v wy => v = .slice (some ⟨sb, 0, none⟩) n n ∧ ∃ g, R5 n sb bb cb hb tb wy (upd (fun _ => .pointer none) D (np g)) (fun _ => .float .f64 0) (fun _ => .int .i64 0) (fun _ => .int .i64 0) (fun _ => .int .i64 0) ∧ SB wy g #[.pointer none, .pointer none, .float .f64 4662219572839972864, .int .i64 0, .int .i64 0] ∧ Below sb w6 wy)
  case first =>
    have hcD := fun o => (h5.st.alloc o).cell hDn
    have hfD := fun o => (h5.st.alloc o).frozen D
    have hlt11 := h5.st.lt
    go_wp2_with (first | (go_at_call 15; refine (newStep_any (.pointer none) (.pointer none) 4662219572839972864 0 0 w11 (by rfl) (by rfl) none none (by rfl) (by rfl)).mono ?_; rintro e w' ⟨rfl, rfl⟩))
    go_meet
    case rel =>
      exact ⟨rfl, w11.heap.size, (h5.set0 hDn _).below ((Below.refl _ _).alloc (Nat.le_refl _) _), SB.new _ _ _ _, (hb611.setCell (Nat.le_refl _) _).alloc (by simp; omega) _⟩
  case rest =>
    rename World => wy
    obtain ⟨rfl, g, h5', hsg, hb6y⟩ := hcut
    clear h5 hb611
    go_upto_region 25 with fail
    go_cut [22] from 106 to 256 (fun v wz => v = .slice (some ⟨bb, 0, none⟩) n n ∧ R5 n sb bb cb hb tb wz (upd (fun _ => .pointer none) D (np g)) (upd (fun _ => .float .f64 0) D (.float .f64 4662219572839972864)) (fun _ => .int .i64 0) (fun _ => .int .i64 0) (fun _ => .int .i64 0) ∧ SB wz g #[.pointer none, .pointer none, .float .f64 4662219572839972864, .int .i64 0, .int .i64 0] ∧ Below sb w6 wz)
    case first =>
      have hcD := h5'.bw.cell hDn
      have hfD := h5'.bw.frozen D
      go_wp2_with fail
      go_meet
      case rel => exact ⟨rfl, h5'.set1 hDn _, K75.set h5'.bw (by decide) _ _ _ hsg, hb6y.setCell (Nat.le_of_lt h5'.ord.1) _⟩
    case rest =>
      rename World => wz
      obtain ⟨rfl, h5, hsz, hb6z⟩ := hcut
      clear h5' hsg hb6y
      go_upto_region 26 with fail
      go_cut [25] from 106 to 256 (fun v wu => v = .slice (some ⟨tb, 0, none⟩) n n ∧ DS n D P (bwV l1 F1) (clV l2 F2) LB sb bb cb hb tb wu ⟨upd (fun _ => 0) D 2, upd (fun _ => none) D (some g), upd (fun _ => 0) D 4662219572839972864, fun _ => 0, fun _ => 0⟩ ∧ Below sb w6 wu)
      case first =>
        have hcD := h5.sta.cell hDn
        have hfD := h5.sta.frozen D
        have ho := h5.ord
        go_wp2_with fail
        go_meet
        case rel =>
          have h6 := h5.set4 hDn (.int .i64 2)
          refine ⟨rfl, ⟨ho, h6.st.fun_eq ?_, h6.bw.fun_eq ?_, h6.cl, h6.hp, h6.sta.fun_eq ?_, ?_⟩, hb6z.setCell (by show sb ≤ tb; omega) _⟩
          · intro i hi; simp only [upd]; split <;> rfl
          · intro i hi; simp only [upd]; split <;> rfl
          · intro i hi; simp only [upd]; split <;> rfl
          · intro i g' hi hg
            have hg : upd (fun _ => none) D (some g) i = some g' := hg
            by_cases e : i = D
            · subst e
              rw [upd_same] at hg
              cases hg
              refine ⟨[], rfl, K75.set h5.sta (by decide) _ _ _ hsz, upd_same (fun _ => 0) i 4662219572839972864, rfl, rfl⟩
            · rw [upd_other _ _ _ e] at hg
              cases hg
      case rest =>
        rename World => wu
        obtain ⟨rfl, hds, hb6u⟩ := hcut
        clear h5 hsz hb6z
        have hlu := hds.sta.lt
        go_upto_block 4 with (first | (at_make; refine wpList_make_own _ (by rfl) (.const (.int .i64 0)) (.tmp 126) 24 (by rfl) (tb + 1) 3 i3 (.int .i64 0) 1 Try.underlying24 hi3 hz3 hs3 .i64 .i64 n n (by rfl) (by rfl) (by rfl) hby3 hml hlu ?_; intro wv hownv hgrv))
        have hdv := hds.below ((Below.refl _ _).grown hgrv (Nat.le_refl _) (fun j hj => by simp at hj))
        have hlus : sb ≤ wu.heap.size := Nat.le_of_lt hds.st.lt
        have hb6v : Below sb w6 wv := hb6u.grown hgrv hlus (fun j hj => by simp at hj)
        clear hds hgrv hb6u hlus
        refine loop3 _ rfl _ n D P a1 a2 l1 c1 l2 c2 F1 F2 LB lb sb bb cb hb tb b0 o0 c0 _ _ _ w6 wv hn hl1 hl2 hDn (by omega) HC.out HS.out hnB hnC (by omega) HK.out hdv (SInv.start n D P g _ _ _) hownv hb6v _ _ _ _ _ _ _ _ _ _ _ _ _ _ _ _ _ _ _ _ _ _ _ _ _ _ _ _ _ _ _ _ _ _ _ _ _ _ _ _ _ _ _ _ _ _ _ _ _ _ _ _ _ _ _ _ _ _ _ _ _ _ _ _ _ _ _ _ _ _ _ _ _ _ _ _ _ _ _ _ _ _ _ _ _ _ _ _ _ _ _ _ _ _ _ _ _ _ _ _ _ _ _ _ _ _ _ _ _ _ _ _ _ _ _ _ _ _ _ _ _ _ _ _ _ _ _ _ _ _ _ _ _ _ _ _ _ _ _ _ _ _ _ _ _ _ _ _ _ _ _ _ _ _ _ _ _ _ _ _ _ _ _ _ _ _ _ _ _ _ _ _ _ _ _ _ _ _ _ _ _ _ _ _ _ _ _ _ _ _ _ _ _ _ _ _ _ _ _ _ _ _ _ _ _ _ _ _ _ _ _ _ _ _ _ _ _ _ _ _ _ _ _ _ _ _ _ _ _ _ _ _ _ _ _ _ _ _ _ _ _ _ _ _ _ _ _ _ _ _ ?_
        intro z26 z27 z28 z29 z30 z31 z32 z33 z34 z35 z128 z129 z130 z131 z132 z133 z134 z135 z136 z137 z138 z139 z140 z141 z142 z143 z144 z145 z146 z147 z148 z149 z150 z151 z152 z153 z154 z155 z156 z157 z158 z159 z160 z161 z162 z163 z164 z165 z166 z167 z168 z169 z170 z171 z172 z173 z174 z175 z176 z177 z178 z179 z180 z181 z182 z183 z184 z185 z186 z187 z188 z189 z190 z191 z192 z193 z194 z195 z196 z197 z198 z199 z200 z201 z202 z203 z204 z205 z206 z207 z208 z209 z210 z211 z212 z213 z214 z215 z216 z217 z218 z219 z220 z221 z222 z223 z224 z225 z226 z227 z228 z229 z230 z231 z232 z233 z234 z235 z236 z237 z238 z239 z240 z241 z242 z243 z244 z245 z246 z247 z248 z249 z250 w2 hout3
        obtain ⟨s, hd2, hinv, hb2⟩ := hout3
        clear hdv hownv hb6v
        have hbr2 : Below mb wr w2 := HB6.out.trans (hb2.mono (Nat.le_of_lt hs6))
        have hbr2' : Below wr.heap.size wr w2 := by rw [HW.out]; exact hbr2
        have hno2 := HNO.out.below hbr2'
        have hpm2 : PMap w2 mb [] := HPM.out.below hb2 hs6
        have hcn := hno2.row.cell hDn
        have hblk := hno2.blk D (Nat.le_of_lt hDn)
        have hmw : mb ≤ w2.heap.size := Nat.le_of_lt hpm2.lt
        have hfin : ∀ w3, PMap w3 mb ([] ++ [(r + 1 + D, .slice (some ⟨sb, 0, none⟩) n n)]) → w2.grownBy w3 (some mb) → OutR n D P (bwV l1 F1) (clV l2 F2) nb r lb LB mb wr w3 := by
          intro w3 hm3 hg3
          have hb3' : Below mb wr w3 := hbr2.grown hg3 hmw (fun j hj => by simp at hj; omega)
          have hb3'' : Below wr.heap.size wr w3 := by rw [HW.out]; exact hb3'
          refine ⟨HNO.out.below hb3'', HLK.out.below hb3'', hb3', sb, s.G, hm3, hd2.st.grown hg3 (by simp; omega), fun j hj => ?_⟩
          cases hG : s.G j with
          | none => exact .inr ⟨rfl, hinv.dead j hj (hinv.done j hj) hG⟩
          | some g =>
            obtain ⟨l, h1, h2, _⟩ := hd2.good j g hj hG
            exact .inl ⟨l, g, rfl, h1, h2.keep (K75.put hpm2 hg3)⟩
        clear hd2 hinv hb2 hbr2 hbr2' hmw
        go_wp2_with (first | (refine wpList_put30 _ (by rfl) (.tmp 251) (.tmp 255) (.tmp 256) 64 (by rfl) 65 Try.underlying64 mb (r + 1 + D) _ (.slice (some ⟨sb, 0, none⟩) n n) (by rfl) (by rfl) (by rfl) hpm2 hblk (fun p hp => by simp at hp) ?_; intro w3 hm3 hg3 hs3'))
        all_goals exact hfin _ hm3 hg3
end Go.Proofs.Qxb6613771a
