/-
  buildPaths' fifth loop, where the search has reached nothing: the marks alone.
-/
import Derived.Test.Qxb6613771aLoop4
namespace Go.Proofs.Qxb6613771a
open Go.RowKit
set_option linter.unusedVariables false

theorem owns_cell {w : World} {base g L cap : Nat} {c : List Nat} (h : w.ownsRow base 3 1 (.slice (some ⟨g, 0, none⟩) L cap) L (ints c)) {m : Nat} (hm : m < c.length) (hL : c.length = L) : w.cell? ⟨g, m, none⟩ = some (.int .i64 (c[m] : Nat)) ∧ m < L ∧ L ≤ cap := by
  obtain ⟨_, ⟨h1, _⟩ | ⟨g1, cap1, cur, h1, _, h2, h3, _, h4, h5⟩⟩ := h
  · simp at h1
  · simp at h1
    obtain ⟨rfl, rfl⟩ := h1
    refine ⟨?_, by omega, h3⟩
    simp only [World.cell?, h2]
    have e : (cur.toList.take (L * 1))[m]? = (ints c)[m]? := by rw [h5]
    rw [List.getElem?_take_of_lt (by omega)] at e
    simp [ints, hm] at e
    simpa using e

/-- What the fifth loop leaves. -/
def Out5 (n D : Nat) (P : Nat → Int) (B : Nat → Nat) (C : Nat → Int) (LB : Nat → Nat) (sb bb cb hb tb : Nat) (s : Sx) (c : List Nat) (w6 : World) (g' L cap : Nat) (w' : World) : Prop :=
  ∃ s', DS n D P B C LB sb bb cb hb tb w' s' ∧ (∀ j, j < n → s'.S j = mark s.S c 2 j) ∧ (∀ j, j < n → j ∉ c → s'.G j = s.G j) ∧ (∀ x ∈ c, s'.G x = none → ∀ l, ¬ IsCh n D P l x) ∧
    w'.ownsRow (tb + 1) 3 1 (.slice (some ⟨g', 0, none⟩) L cap) L (ints c) ∧ Below sb w6 w'

set_option maxRecDepth 100000 in
set_option maxHeartbeats 4000000 in
theorem loop5d (cd : Code) (hcd : Try.f7.body.bind (blk? 8) = some cd) (Q : Exit → Act → World → Prop) (n D : Nat) (P : Nat → Int) (B : Nat → Nat) (C : Nat → Int) (LB : Nat → Nat) (sb bb cb hb tb : Nat) (b0 o0 c0 g' cap L : Nat) (c : List Nat) (s : Sx) (w6 w : World)
    (hn : n ≤ 4096) (hL : c.length = L) (hLn : L ≤ n) (hel : ∀ x ∈ c, x < n) (hdead : ∀ x ∈ c, ∀ l, ¬ IsCh n D P l x)
    (hds : DS n D P B C LB sb bb cb hb tb w { s with S := mark s.S c 1 }) (hown : w.ownsRow (tb + 1) 3 1 (.slice (some ⟨g', 0, none⟩) L cap) L (ints c)) (hb6 : Below sb w6 w)
    (x1 x2 x3 x4 x5 x6 x7 x8 x9 x10 x11 x13 x14 x15 x16 x17 x18 x19 x20 x21 x22 x23 x24 x27 x28 x29 x32 x33 x34 x35 x36 x37 x38 x39 x40 x41 x42 x43 x44 x45 x46 x47 x48 x49 x50 x51 x52 x53 x54 x55 x56 x57 x58 x59 x60 x61 x62 x63 x64 x65 x66 x67 x68 x69 x70 x71 x72 x73 x74 x75 x76 x77 x78 x79 x80 x81 x82 x83 x84 x85 x86 x87 x88 x89 x90 x91 x92 x93 x94 x95 x96 x97 x98 x99 x100 x101 x102 x103 x104 x105 x106 x107 x108 x109 x110 x111 x112 x113 x114 x115 x116 x117 x118 x119 x120 x121 x122 x123 x124 x125 x126 x127 x128 x129 x130 x131 x132 x133 x134 x135 x136 x137 x138 x139 x140 x141 x142 x143 x144 x145 x146 x147 x148 x149 x150 x151 x152 x153 x154 x155 x156 x157 x158 x159 x160 x161 x162 x163 x164 x165 x166 x167 x168 x169 x170 x171 x172 x173 x174 x175 x176 x177 x178 x179 x180 x181 x182 x183 x184 x185 x186 x187 x188 x189 x190 x191 x192 x193 x194 x195 x196 x197 x198 x199 x200 x201 x202 x203 x204 x205 x206 x207 x208 x209 x210 x211 x212 x213 x214 x215 x216 x217 x218 x219 x220 x221 x222 x223 x224 x225 x226 x227 x228 x229 x230 x231 x232 x233 x234 x235 x236 x237 x238 x239 x240 x241 x242 x243 x244 x245 x246 x247 x248 x249 x250 x251 x252 x253 x254 x255 x256 x257 x258 x259 x260 x261 x262 : Value)
    (hQ : ∀ (y31 y32 y33 y34 y35 y179 y180 y181 y182 y183 y184 y185 y186 y187 y188 y189 y190 y191 y192 y193 y194 y195 y196 y197 y198 y199 y200 y201 y202 y203 y204 y205 y206 y207 y208 y209 y210 y211 y212 y213 y214 y215 y216 y217 y218 y219 y220 y221 y222 y223 y224 y225 y226 y227 y228 y229 y230 y231 y232 y233 y234 y235 y236 y237 y238 y239 y240 y241 y242 y243 y244 y245 y246 y247 y248 y249 y250 : Value) (w' : World), Out5 n D P B C LB sb bb cb hb tb s c w6 g' L cap w' →
      Q .normal { tmps := #[.slice (some ⟨b0, o0, none⟩) n c0, x1, x2, x3, x4, x5, x6, x7, x8, x9, x10, x11, .int .i64 n, x13, x14, x15, x16, x17, x18, x19, x20, x21, x22, x23, x24, .slice (some ⟨tb, 0, none⟩) n n, .slice (some ⟨g', 0, none⟩) L cap, x27, x28, x29, .bool false, y31, y32, y33, y34, y35, x36, x37, x38, x39, x40, x41, x42, x43, x44, x45, x46, x47, x48, x49, x50, x51, x52, x53, x54, x55, x56, x57, x58, x59, x60, x61, x62, x63, x64, x65, x66, x67, x68, x69, x70, x71, x72, x73, x74, x75, x76, x77, x78, x79, x80, x81, x82, x83, x84, x85, x86, x87, x88, x89, x90, x91, x92, x93, x94, x95, x96, x97, x98, x99, x100, x101, x102, x103, x104, x105, x106, x107, x108, x109, x110, x111, x112, x113, x114, x115, x116, x117, x118, x119, x120, x121, x122, x123, x124, x125, x126, x127, x128, x129, x130, x131, x132, x133, x134, x135, x136, x137, x138, x139, x140, x141, x142, x143, x144, x145, x146, x147, x148, x149, x150, x151, x152, x153, x154, x155, x156, x157, x158, x159, x160, x161, x162, x163, x164, x165, x166, x167, x168, x169, x170, x171, x172, x173, x174, x175, x176, x177, x178, y179, y180, y181, y182, y183, y184, y185, y186, y187, y188, y189, y190, y191, y192, y193, y194, y195, y196, y197, y198, y199, y200, y201, y202, y203, y204, y205, y206, y207, y208, y209, y210, y211, y212, y213, y214, y215, y216, y217, y218, y219, y220, y221, y222, y223, y224, y225, y226, y227, y228, y229, y230, y231, y232, y233, y234, y235, y236, y237, y238, y239, y240, y241, y242, y243, y244, y245, y246, y247, y248, y249, y250, x251, x252, x253, x254, x255, x256, x257, x258, x259, x260, x261, x262], defers := [] } w') :
    cd.wp Try.prog Q { tmps := #[.slice (some ⟨b0, o0, none⟩) n c0, x1, x2, x3, x4, x5, x6, x7, x8, x9, x10, x11, .int .i64 n, x13, x14, x15, x16, x17, x18, x19, x20, x21, x22, x23, x24, .slice (some ⟨tb, 0, none⟩) n n, .slice (some ⟨g', 0, none⟩) L cap, x27, x28, x29, .bool false, .int .i64 ((L : Int) - 1), x32, x33, x34, x35, x36, x37, x38, x39, x40, x41, x42, x43, x44, x45, x46, x47, x48, x49, x50, x51, x52, x53, x54, x55, x56, x57, x58, x59, x60, x61, x62, x63, x64, x65, x66, x67, x68, x69, x70, x71, x72, x73, x74, x75, x76, x77, x78, x79, x80, x81, x82, x83, x84, x85, x86, x87, x88, x89, x90, x91, x92, x93, x94, x95, x96, x97, x98, x99, x100, x101, x102, x103, x104, x105, x106, x107, x108, x109, x110, x111, x112, x113, x114, x115, x116, x117, x118, x119, x120, x121, x122, x123, x124, x125, x126, x127, x128, x129, x130, x131, x132, x133, x134, x135, x136, x137, x138, x139, x140, x141, x142, x143, x144, x145, x146, x147, x148, x149, x150, x151, x152, x153, x154, x155, x156, x157, x158, x159, x160, x161, x162, x163, x164, x165, x166, x167, x168, x169, x170, x171, x172, x173, x174, x175, x176, x177, x178, x179, x180, x181, x182, x183, x184, x185, x186, x187, x188, x189, x190, x191, x192, x193, x194, x195, x196, x197, x198, x199, x200, x201, x202, x203, x204, x205, x206, x207, x208, x209, x210, x211, x212, x213, x214, x215, x216, x217, x218, x219, x220, x221, x222, x223, x224, x225, x226, x227, x228, x229, x230, x231, x232, x233, x234, x235, x236, x237, x238, x239, x240, x241, x242, x243, x244, x245, x246, x247, x248, x249, x250, x251, x252, x253, x254, x255, x256, x257, x258, x259, x260, x261, x262], defers := [] } w := by
  have hc' : Try.f7.body.bind (blk? 8) = some _ := rfl
  cases hc'.symm.trans hcd
  clear hcd hc'
  have HL : Hid (c.length = L) := hL
  have HE : Hid (∀ x ∈ c, x < n) := hel
  have HD : Hid (∀ x ∈ c, ∀ l, ¬ IsCh n D P l x) := hdead
  clear hL hel hdead
  go_wp2_with fail
  go_loopw [31] (fun vk wr => ∃ m : Nat, m ≤ L ∧ vk = .int .i64 ((m : Int) - 1) ∧ DS n D P B C LB sb bb cb hb tb wr { s with S := mark (mark s.S c 1) (c.drop m) 2 } ∧ wr.ownsRow (tb + 1) 3 1 (.slice (some ⟨g', 0, none⟩) L cap) L (ints c) ∧ Below sb w6 wr) (fun vk _ => (intOf vk + 1).toNat)
  case atStart =>
    refine ⟨L, Nat.le_refl _, rfl, ?_, hown, hb6⟩
    rw [← HL.out, List.drop_length, mark_nil]
    exact hds
  case round =>
    obtain ⟨m, hm, rfl, hd, ho, hbl⟩ := hrel
    clear hds hown hb6
    cases m with
    | zero =>
      have hout : Out5 n D P B C LB sb bb cb hb tb s c w6 g' L cap wr := by
        refine ⟨_, hd, fun j hj => ?_, fun j hj hx => rfl, fun x hx _ => HD.out x hx, ho, hbl⟩
        show mark (mark s.S c 1) (c.drop 0) 2 j = _
        rw [mark_all]
      clear hd ho hbl
      go_wp2_with fail
      all_goals exact hout
    | succ m =>
      have hmc : m < c.length := by rw [HL.out]; omega
      obtain ⟨hcell, hmL, hLc⟩ := owns_cell ho hmc HL.out
      have hjn : c[m] < n := HE.out _ (List.getElem_mem hmc)
      have hd1 := hd.setT hjn 2
      have hS := mark_drop (mark s.S c 1) c m 2 hmc
      obtain ⟨j, hj⟩ : ∃ j, j = c[m] := ⟨_, rfl⟩
      rw [← hj] at hcell hjn hd1 hS
      clear hj
      have hcs := hd.sta.cell hjn
      have hfs := hd.sta.frozen j
      have ho1 : (wr.setCell ⟨tb, j, none⟩ (.int .i64 2)).ownsRow (tb + 1) 3 1 (.slice (some ⟨g', 0, none⟩) L cap) L (ints c) := ownsRow_setCell_below ho (by show tb < tb + 1; omega) _
      have hb1 : Below sb w6 (wr.setCell ⟨tb, j, none⟩ (.int .i64 2)) := hbl.setCell (by show sb ≤ tb; have := hd.ord; omega) _
      have hd2 : DS n D P B C LB sb bb cb hb tb (wr.setCell ⟨tb, j, none⟩ (.int .i64 2)) { s with S := mark (mark s.S c 1) (c.drop m) 2 } := by rw [← hS]; exact hd1
      have hmi : ((m + 1 : Nat) : Int) - 1 = m := by omega
      rw [hmi]
      clear hd hd1 ho hbl hS
      go_wp2_with fail
      go_roundw
      case rel => exact ⟨m, by omega, rfl, hd2, ho1, hb1⟩
      case measure => simp [intOf]
end Go.Proofs.Qxb6613771a
