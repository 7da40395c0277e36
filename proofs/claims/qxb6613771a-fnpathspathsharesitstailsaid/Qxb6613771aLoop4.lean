/-
  buildPaths' fourth loop: up the parents, as far as the marks are 0.
-/
import Derived.Test.Qxb6613771aSearch
import Derived.Deep.CutBlock
import Derived.Deep.CutRange
namespace Go.Proofs.Qxb6613771a
open Go.RowKit
set_option linter.unusedVariables false

/-- The block with number k. -/
def blk? (k : Nat) : Code → Option Code
  | .block id b => if id = k then some (.block id b) else blk? k b
  | .seq a b => match blk? k a with
    | some c => some c
    | none => blk? k b
  | .cond _ t e => match blk? k t with
    | some c => some c
    | none => blk? k e
  | .loop b => blk? k b
  | _ => none

/-- What the fourth loop leaves. -/
def Out4 (n D : Nat) (P : Nat → Int) (B : Nat → Nat) (C : Nat → Int) (LB : Nat → Nat) (sb bb cb hb tb : Nat) (s : Sx) (i : Nat) (w6 : World) (y26 y28 : Value) (w' : World) : Prop :=
  ∃ (c : List Nat) (cur : Int) (g' cap : Nat), y28 = .int .i64 cur ∧ y26 = .slice (some ⟨g', 0, none⟩) c.length cap ∧ Stk n s i c ∧ Ends n D P s i c cur ∧ (c = [] → s.S i = 2) ∧ DS n D P B C LB sb bb cb hb tb w' { s with S := mark s.S c 1 } ∧ w'.ownsRow (tb + 1) 3 1 (.slice (some ⟨g', 0, none⟩) c.length cap) c.length (ints c) ∧ Below sb w6 w'

set_option maxRecDepth 100000 in
set_option maxHeartbeats 4000000 in
theorem loop4 (c : Code) (hc : Try.f7.body.bind (blk? 6) = some c) (Q : Exit → Act → World → Prop) (n D : Nat) (P : Nat → Int) (B : Nat → Nat) (C : Nat → Int) (LB : Nat → Nat) (sb bb cb hb tb : Nat) (b0 o0 c0 g' cap i : Nat) (s : Sx) (w6 w : World)
    (hn : n ≤ 4096) (hD : D < n) (hi : i < n) (hb0 : b0 < sb) (hc0 : ∀ j, j < n → w6.cell? ⟨b0, o0 + j, none⟩ = some (.int .i64 (P j)))
    (hds : DS n D P B C LB sb bb cb hb tb w s) (HI : Hid (SInv n D P i s)) (hown : w.ownsRow (tb + 1) 3 1 (.slice (some ⟨g', 0, none⟩) 0 cap) 0 []) (hb6 : Below sb w6 w) (hsb : sb ≤ w.heap.size)
    (x1 x2 x3 x4 x5 x6 x7 x8 x9 x10 x11 x13 x14 x15 x16 x17 x18 x19 x20 x21 x22 x23 x24 x27 x29 x30 x31 x32 x33 x34 x35 x36 x37 x38 x39 x40 x41 x42 x43 x44 x45 x46 x47 x48 x49 x50 x51 x52 x53 x54 x55 x56 x57 x58 x59 x60 x61 x62 x63 x64 x65 x66 x67 x68 x69 x70 x71 x72 x73 x74 x75 x76 x77 x78 x79 x80 x81 x82 x83 x84 x85 x86 x87 x88 x89 x90 x91 x92 x93 x94 x95 x96 x97 x98 x99 x100 x101 x102 x103 x104 x105 x106 x107 x108 x109 x110 x111 x112 x113 x114 x115 x116 x117 x118 x119 x120 x121 x122 x123 x124 x125 x126 x127 x128 x129 x130 x131 x132 x133 x134 x135 x136 x137 x138 x139 x140 x141 x142 x143 x144 x145 x146 x147 x148 x149 x150 x151 x152 x153 x154 x155 x156 x157 x158 x159 x160 x161 x162 x163 x164 x165 x166 x167 x168 x169 x170 x171 x172 x173 x174 x175 x176 x177 x178 x179 x180 x181 x182 x183 x184 x185 x186 x187 x188 x189 x190 x191 x192 x193 x194 x195 x196 x197 x198 x199 x200 x201 x202 x203 x204 x205 x206 x207 x208 x209 x210 x211 x212 x213 x214 x215 x216 x217 x218 x219 x220 x221 x222 x223 x224 x225 x226 x227 x228 x229 x230 x231 x232 x233 x234 x235 x236 x237 x238 x239 x240 x241 x242 x243 x244 x245 x246 x247 x248 x249 x250 x251 x252 x253 x254 x255 x256 x257 x258 x259 x260 x261 x262 : Value)
    (hQ : ∀ (y26 y28 y29 y136 y137 y138 y139 y140 y141 y142 y143 y144 y145 y146 y147 y148 y149 y150 y151 y152 y153 y154 y155 y156 y157 y158 y159 : Value) (w' : World), Out4 n D P B C LB sb bb cb hb tb s i w6 y26 y28 w' →
      Q .normal { tmps := #[.slice (some ⟨b0, o0, none⟩) n c0, x1, x2, x3, x4, x5, x6, x7, x8, x9, x10, x11, .int .i64 n, x13, x14, x15, x16, x17, x18, x19, x20, x21, x22, x23, x24, .slice (some ⟨tb, 0, none⟩) n n, y26, x27, y28, y29, x30, x31, x32, x33, x34, x35, x36, x37, x38, x39, x40, x41, x42, x43, x44, x45, x46, x47, x48, x49, x50, x51, x52, x53, x54, x55, x56, x57, x58, x59, x60, x61, x62, x63, x64, x65, x66, x67, x68, x69, x70, x71, x72, x73, x74, x75, x76, x77, x78, x79, x80, x81, x82, x83, x84, x85, x86, x87, x88, x89, x90, x91, x92, x93, x94, x95, x96, x97, x98, x99, x100, x101, x102, x103, x104, x105, x106, x107, x108, x109, x110, x111, x112, x113, x114, x115, x116, x117, x118, x119, x120, x121, x122, x123, x124, x125, x126, x127, x128, x129, x130, x131, x132, x133, x134, x135, y136, y137, y138, y139, y140, y141, y142, y143, y144, y145, y146, y147, y148, y149, y150, y151, y152, y153, y154, y155, y156, y157, y158, y159, x160, x161, x162, x163, x164, x165, x166, x167, x168, x169, x170, x171, x172, x173, x174, x175, x176, x177, x178, x179, x180, x181, x182, x183, x184, x185, x186, x187, x188, x189, x190, x191, x192, x193, x194, x195, x196, x197, x198, x199, x200, x201, x202, x203, x204, x205, x206, x207, x208, x209, x210, x211, x212, x213, x214, x215, x216, x217, x218, x219, x220, x221, x222, x223, x224, x225, x226, x227, x228, x229, x230, x231, x232, x233, x234, x235, x236, x237, x238, x239, x240, x241, x242, x243, x244, x245, x246, x247, x248, x249, x250, x251, x252, x253, x254, x255, x256, x257, x258, x259, x260, x261, x262], defers := [] } w') :
    c.wp Try.prog Q { tmps := #[.slice (some ⟨b0, o0, none⟩) n c0, x1, x2, x3, x4, x5, x6, x7, x8, x9, x10, x11, .int .i64 n, x13, x14, x15, x16, x17, x18, x19, x20, x21, x22, x23, x24, .slice (some ⟨tb, 0, none⟩) n n, .slice (some ⟨g', 0, none⟩) 0 cap, x27, .int .i64 i, x29, x30, x31, x32, x33, x34, x35, x36, x37, x38, x39, x40, x41, x42, x43, x44, x45, x46, x47, x48, x49, x50, x51, x52, x53, x54, x55, x56, x57, x58, x59, x60, x61, x62, x63, x64, x65, x66, x67, x68, x69, x70, x71, x72, x73, x74, x75, x76, x77, x78, x79, x80, x81, x82, x83, x84, x85, x86, x87, x88, x89, x90, x91, x92, x93, x94, x95, x96, x97, x98, x99, x100, x101, x102, x103, x104, x105, x106, x107, x108, x109, x110, x111, x112, x113, x114, x115, x116, x117, x118, x119, x120, x121, x122, x123, x124, x125, x126, x127, x128, x129, x130, x131, x132, x133, x134, x135, x136, x137, x138, x139, x140, x141, x142, x143, x144, x145, x146, x147, x148, x149, x150, x151, x152, x153, x154, x155, x156, x157, x158, x159, x160, x161, x162, x163, x164, x165, x166, x167, x168, x169, x170, x171, x172, x173, x174, x175, x176, x177, x178, x179, x180, x181, x182, x183, x184, x185, x186, x187, x188, x189, x190, x191, x192, x193, x194, x195, x196, x197, x198, x199, x200, x201, x202, x203, x204, x205, x206, x207, x208, x209, x210, x211, x212, x213, x214, x215, x216, x217, x218, x219, x220, x221, x222, x223, x224, x225, x226, x227, x228, x229, x230, x231, x232, x233, x234, x235, x236, x237, x238, x239, x240, x241, x242, x243, x244, x245, x246, x247, x248, x249, x250, x251, x252, x253, x254, x255, x256, x257, x258, x259, x260, x261, x262], defers := [] } w := by
  have hc' : Try.f7.body.bind (blk? 6) = some _ := rfl
  cases hc'.symm.trans hc
  clear hc hc'
  obtain ⟨i3, hi3, hz3, hs3, hb3⟩ := info_parts Try.info3
  go_wp2_with fail
  go_loopw [26, 28] (fun v vc wr => ∃ (c : List Nat) (cur g' cap : Nat), vc = .int .i64 cur ∧ cur < n ∧ v = .slice (some ⟨g', 0, none⟩) c.length cap ∧ Hid (Way n D P c i cur) ∧ Hid (Stk n s i c) ∧ DS n D P B C LB sb bb cb hb tb wr { s with S := mark s.S c 1 } ∧ wr.ownsRow (tb + 1) 3 1 (.slice (some ⟨g', 0, none⟩) c.length cap) c.length (ints c) ∧ Below sb w6 wr ∧ sb ≤ wr.heap.size) (fun v _ _ => n - lenV v)
  case atStart =>
    refine ⟨[], i, g', cap, rfl, hi, rfl, (rfl : i = i), Stk.nil n s i, ?_, hown, hb6, hsb⟩
    rw [mark_nil]
    exact hds
  case round =>
    obtain ⟨c, cur, g', cap, rfl, hcur, rfl, HW, HS, hd, ho, hbl, hsbr⟩ := hrel
    clear hds hown hb6
    have hcell0 : wr.cell? ⟨tb, cur, none⟩ = some (.int .i64 (mark s.S c 1 cur : Nat)) := hd.sta.cell hcur
    have hltb := hd.sta.lt
    obtain ⟨T, hT⟩ : ∃ T, T = mark s.S c 1 cur := ⟨_, rfl⟩
    rw [← hT] at hcell0
    have HT : Hid (mark s.S c 1 cur = T) := hT.symm
    clear hT
    obtain ⟨L, hL⟩ : ∃ L, L = c.length := ⟨_, rfl⟩
    have HLn : L ≤ n := by rw [hL]; exact HS.out.length_le
    rw [← hL] at ho
    simp only [← hL]
    have HL : Hid (c.length = L) := hL.symm
    clear hL
    by_cases h0 : T = 0
    · subst h0
      have hf := hd.sta.frozen cur
      have hcD : cur ≠ D := by
        rintro rfl
        have := (mark_zero HT.out).2
        rw [HI.out.dst] at this
        cases this
      have hstk := HS.out.snoc hcur HT.out HW.out
      have hlen := hstk.length_le
      rw [List.length_append, HL.out, List.length_singleton] at hlen
      have hm : L + 1 ≤ maxLen := by unfold maxLen; omega
      have hby : (L + 1) * 8 ≤ 140737488355328 := by omega
      have hd1 := hd.setT hcur 1
      have hb1 : Below sb w6 (wr.setCell ⟨tb, cur, none⟩ (.int .i64 1)) := hbl.setCell (by show sb ≤ tb; have := hd.ord; omega) _
      have ho1 : (wr.setCell ⟨tb, cur, none⟩ (.int .i64 1)).ownsRow (tb + 1) 3 1 (.slice (some ⟨g', 0, none⟩) L cap) L (ints c) := ownsRow_setCell_below ho (by show tb < tb + 1; omega) _
      have ho2 := ho1.alloc (.cells #[.int .i64 (cur : Int)] 3)
      have hd2 := hd1.alloc (.cells #[.int .i64 (cur : Int)] 3)
      have hbase : tb + 1 ≤ ((wr.setCell ⟨tb, cur, none⟩ (.int .i64 1)).alloc (.cells #[.int .i64 (cur : Int)] 3)).heap.size := by simp; omega
      have hb2 := hb1.alloc (by simp; omega) (.cells #[.int .i64 (cur : Int)] 3)
      have hnews := cell_one_new (wr.setCell ⟨tb, cur, none⟩ (.int .i64 1)) (.int .i64 (cur : Int)) 3
      rw [World.size_setCell] at hnews
      go_upto_region 36 with (first | (at_builtin; refine wpList_append_lies _ (by rfl) (.tmp 144) (.tmp 146) 24 (by rfl) (tb + 1) 3 i3 (.int .i64 0) 1 8 Try.underlying24 hi3 hz3 hs3 hb3 (by rfl) (by decide) _ L _ (by rfl) ho2 ⟨wr.heap.size, 0, none⟩ 1 1 [.int .i64 (cur : Int)] (by rfl) (by rfl) hnews (one_i64 _) (by decide) hm hby hbase _ rfl ?_; intro g2 cap2 w2 hown2 hgr2 _ hlt2))
      have hd3 := hd2.push ho2 hgr2
      have hb3' : Below sb w6 w2 := hb2.grown hgr2 (by simp; omega) (fun j hj => by have := (ho.lt j hj).1; have := hd.ord; omega)
      have hp : w2.cell? ⟨b0, o0 + cur, none⟩ = some (.int .i64 (P cur)) := (hb3'.cell (p := ⟨b0, o0 + cur, none⟩) hb0).trans (hc0 cur hcur)
      have hsb2 : sb ≤ w2.heap.size := Nat.le_trans (by simp; omega) hgr2.size
      have hd4 : DS n D P B C LB sb bb cb hb tb w2 { s with S := mark s.S (c ++ [cur]) 1 } := by
        rw [← mark_snoc]; exact hd3
      have ho4 : w2.ownsRow (tb + 1) 3 1 (.slice (some ⟨g2, 0, none⟩) (L + 1) cap2) (L + 1) (ints (c ++ [cur])) := by
        rw [← ints_snoc]; exact hown2
      have HL4 : Hid ((c ++ [cur]).length = L + 1) := by
        show (c ++ [cur]).length = L + 1
        rw [List.length_append, HL.out]; rfl
      clear hd hd1 hd2 hd3 ho ho1 ho2 hown2 hgr2 hbl hb1 hb2 hnews hcell0 hf hbase hm hby
      by_cases hr : 0 ≤ P cur ∧ P cur < n
      · obtain ⟨hr0, hr1⟩ := hr
        obtain ⟨p, hpe⟩ : ∃ p : Nat, P cur = p := ⟨(P cur).toNat, by omega⟩
        rw [hpe] at hp hr0 hr1
        have HP : Hid (P cur = p) := hpe
        clear hpe
        go_wp2_with fail
        go_roundw
        case rel =>
          refine ⟨c ++ [cur], p, g2, cap2, rfl, by omega, ?_, ?_, hstk, hd4, ?_, hb3', hsb2⟩
          · rw [HL4.out]
          · show Way n D P (c ++ [cur]) i p
            have h1 := HP.out
            have := HW.out.snoc hcD (by omega) (by omega)
            rw [h1] at this
            simpa using this
          · rw [HL4.out]; exact ho4
        case measure => simp [lenV]; omega
      · have hend := Ends.stop (s := s) HW.out hcD hr
        have hout : ∀ (v26 v28 : Value), v26 = .slice (some ⟨g2, 0, none⟩) (L + 1) cap2 → v28 = .int .i64 (-1) → Out4 n D P B C LB sb bb cb hb tb s i w6 v26 v28 w2 := by
          intro v26 v28 e1 e2
          refine ⟨c ++ [cur], -1, g2, cap2, e2, ?_, hstk, hend, fun h => by simp at h, hd4, ?_, hb3'⟩
          · rw [HL4.out]; exact e1
          · rw [HL4.out]; exact ho4
        clear hd4 ho4 hstk hend
        by_cases hneg : P cur < 0
        · clear hr
          go_wp2_with fail
          all_goals exact hout _ _ rfl rfl
        · have hge : (n : Int) ≤ P cur := by omega
          clear hr
          go_wp2_with fail
          all_goals exact hout _ _ rfl rfl
    · have hq : ((T : Int) == 0) = false := by simpa using h0
      have hend := Ends.meet HI.out hcur HW.out (by rw [HT.out]; exact h0)
      have hc0' : c = [] → s.S i = 2 := fun e => by
        subst e
        have h1 : i = cur := HW.out
        subst h1
        have h2 := HT.out
        rw [mark_nil] at h2
        rcases HI.out.two i hi with h | h
        · rw [h] at h2; exact absurd h2.symm h0
        · exact h
      have hout : ∀ (v26 v28 : Value), v26 = .slice (some ⟨g', 0, none⟩) L cap → v28 = .int .i64 cur → Out4 n D P B C LB sb bb cb hb tb s i w6 v26 v28 wr := by
        intro v26 v28 e1 e2
        refine ⟨c, cur, g', cap, e2, ?_, HS.out, hend, hc0', hd, ?_, hbl⟩
        · rw [HL.out]; exact e1
        · rw [HL.out]; exact ho
      clear hend hc0' hd ho hbl
      go_wp2_with fail
      all_goals exact hout _ _ rfl rfl
end Go.Proofs.Qxb6613771a
