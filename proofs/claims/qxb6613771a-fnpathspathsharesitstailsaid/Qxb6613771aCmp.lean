/-
  The two loops of FnPathsPathSharesItsTail: they compare links.
-/
import Derived.Test.Qxb6613771aAsk
namespace Go.Proofs.Qxb6613771a
open Go.RowKit
set_option linter.unusedVariables false

theorem Try.info48 : (Try.prog.info? 48).map (fun i => decide (i.size = 0)) = some false := by kernel_rfl
theorem equal44 (b : Nat) (w : World) : (Op.equal 44 (np b) (np b)).run Try.prog w = .ok true w := by
  have h : ∀ d, (Op.equalIn (d + 1) 44 (np b) (np b)).run Try.prog w = .ok true w := fun d => by
    have hi := Try.info48
    cases hj : Try.prog.info? 48 with
    | none => simp [hj] at hi
    | some j =>
      have hz : j.size ≠ 0 := by simpa [hj] using hi
      simp [Op.equalIn, run_underlying Try.underlying44, sizeOf, typeInfo, hj, run_sameAddr_same]
  exact h 9999
theorem neq44 (b : Nat) (w : World) : (binOp .neq 44 (np b) (np b)).run Try.prog w = .ok (.bool false) w := by
  simp [binOp, equal44]

theorem below_drewN {w0 w : World} {B : Nat} (h : Below B w0 w) (m : Nat) : Below B w0 (w.drewN m) := ⟨h.os, h.tape, h.output, h.size, h.block⟩

set_option maxRecDepth 100000 in
set_option maxHeartbeats 4000000 in
theorem loopA (cd : Code) (hcd : Try.f4.body.bind (blk? 0) = some cd) (Q : Exit → Act → World → Prop) (n L lb : Nat) (LB J : Nat → Nat) (a20 a22 : Option Addr) (c20 c22 : Nat) (w : World)
    (hn : n ≤ 4096) (hL : L ≤ 4096) (hJ : ∀ k, k < L → J k < n) (h20 : Nums w a20 L (fun k => .int .i64 (J k))) (h22 : Nums w a22 L (fun k => np (LB (J k)))) (hlk : ∀ k, k < L → w.cell? ⟨lb, J k, none⟩ = some (np (LB (J k))))
    (x0 x1 x2 x3 x4 x5 x6 x7 x8 x9 x10 x11 x12 x13 x15 x16 x17 x18 x19 x21 x24 x25 x26 x27 x28 x29 x30 x31 x32 x33 x34 x35 x36 x37 x38 x39 x40 x41 x42 x43 x44 x45 x46 x47 x48 x49 x50 x51 x52 x53 x54 x55 x56 x57 x58 x59 x60 x61 x62 x63 x64 x65 x66 x67 x68 x69 x70 x71 x72 x73 x74 x75 x76 x77 x78 x79 x80 x81 x82 x83 x84 x85 x86 x87 x88 x89 x90 x91 x92 x93 x94 x95 x96 x97 x98 x99 x100 x101 x102 x103 x104 x105 x106 x107 x108 x109 x110 x111 x112 x113 x114 x115 x116 x117 x118 x119 x120 x121 x122 x123 x124 x125 x126 x127 x128 x129 x130 x131 x132 x133 x134 x135 x136 x137 x138 x139 x140 x141 x142 x143 x144 x145 x146 x147 x148 x149 x150 x151 x152 x153 x154 x155 x156 x157 x158 x159 x160 x161 x162 x163 x164 x165 x166 x167 x168 x169 x170 x171 x172 x173 x174 x175 x176 x177 x178 x179 x180 x181 x182 x183 x184 x185 x186 x187 x188 x189 x190 x191 x192 x193 x194 x195 x196 x197 x198 x199 x200 x201 x202 x203 x204 x205 x206 x207 x208 x209 x210 x211 x212 x213 x214 x215 x216 x217 x218 x219 x220 x221 x222 x223 x224 x225 x226 x227 x228 : Value)
    (hQ : ∀ (y10 y23 y137 y138 y139 y140 y141 y142 y143 y144 y145 y146 y147 y148 y149 y150 y151 y152 y153 y154 : Value) (w' : World), Below w.heap.size w w' → Q .normal { tmps := #[x0, x1, x2, x3, x4, x5, x6, x7, x8, x9, y10, x11, x12, x13, .slice (some ⟨lb, 0, none⟩) n n, x15, x16, x17, x18, x19, .slice a20 L c20, x21, .slice a22 L c22, y23, x24, x25, x26, x27, x28, x29, x30, x31, x32, x33, x34, x35, x36, x37, x38, x39, x40, x41, x42, x43, x44, x45, x46, x47, x48, x49, x50, x51, x52, x53, x54, x55, x56, x57, x58, x59, x60, x61, x62, x63, x64, x65, x66, x67, x68, x69, x70, x71, x72, x73, x74, x75, x76, x77, x78, x79, x80, x81, x82, x83, x84, x85, x86, x87, x88, x89, x90, x91, x92, x93, x94, x95, x96, x97, x98, x99, x100, x101, x102, x103, x104, x105, x106, x107, x108, x109, x110, x111, x112, x113, x114, x115, x116, x117, x118, x119, x120, x121, x122, x123, x124, x125, x126, x127, x128, x129, x130, x131, x132, x133, x134, x135, x136, y137, y138, y139, y140, y141, y142, y143, y144, y145, y146, y147, y148, y149, y150, y151, y152, y153, y154, x155, x156, x157, x158, x159, x160, x161, x162, x163, x164, x165, x166, x167, x168, x169, x170, x171, x172, x173, x174, x175, x176, x177, x178, x179, x180, x181, x182, x183, x184, x185, x186, x187, x188, x189, x190, x191, x192, x193, x194, x195, x196, x197, x198, x199, x200, x201, x202, x203, x204, x205, x206, x207, x208, x209, x210, x211, x212, x213, x214, x215, x216, x217, x218, x219, x220, x221, x222, x223, x224, x225, x226, x227, x228], defers := [] } w') :
    cd.wp Try.prog Q { tmps := #[x0, x1, x2, x3, x4, x5, x6, x7, x8, x9, x10, x11, x12, x13, .slice (some ⟨lb, 0, none⟩) n n, x15, x16, x17, x18, x19, .slice a20 L c20, x21, .slice a22 L c22, .int .i64 0, x24, x25, x26, x27, x28, x29, x30, x31, x32, x33, x34, x35, x36, x37, x38, x39, x40, x41, x42, x43, x44, x45, x46, x47, x48, x49, x50, x51, x52, x53, x54, x55, x56, x57, x58, x59, x60, x61, x62, x63, x64, x65, x66, x67, x68, x69, x70, x71, x72, x73, x74, x75, x76, x77, x78, x79, x80, x81, x82, x83, x84, x85, x86, x87, x88, x89, x90, x91, x92, x93, x94, x95, x96, x97, x98, x99, x100, x101, x102, x103, x104, x105, x106, x107, x108, x109, x110, x111, x112, x113, x114, x115, x116, x117, x118, x119, x120, x121, x122, x123, x124, x125, x126, x127, x128, x129, x130, x131, x132, x133, x134, x135, x136, x137, x138, x139, x140, x141, x142, x143, x144, x145, x146, x147, x148, x149, x150, x151, x152, x153, x154, x155, x156, x157, x158, x159, x160, x161, x162, x163, x164, x165, x166, x167, x168, x169, x170, x171, x172, x173, x174, x175, x176, x177, x178, x179, x180, x181, x182, x183, x184, x185, x186, x187, x188, x189, x190, x191, x192, x193, x194, x195, x196, x197, x198, x199, x200, x201, x202, x203, x204, x205, x206, x207, x208, x209, x210, x211, x212, x213, x214, x215, x216, x217, x218, x219, x220, x221, x222, x223, x224, x225, x226, x227, x228], defers := [] } w := by
  have hc' : Try.f4.body.bind (blk? 0) = some _ := rfl
  cases hc'.symm.trans hcd
  clear hcd hc'
  go_wp2_with fail
  go_loopw [23] (fun v wr => ∃ k : Nat, k ≤ L ∧ v = .int .i64 k ∧ Below w.heap.size w wr) (fun v _ => L - (intOf v).toNat)
  case atStart => exact ⟨0, Nat.zero_le _, rfl, Below.refl _ _⟩
  case round =>
    obtain ⟨k, hk, rfl, hbr⟩ := hrel
    by_cases hlt : k < L
    · obtain ⟨b20, o20, rfl, hb20, hc20⟩ := h20 (by omega)
      obtain ⟨b22, o22, rfl, hb22, hc22⟩ := h22 (by omega)
      have e1 := cellk hbr (hc20 k hlt)
      have e2 := cellk hbr (hc22 k hlt)
      have e3 := cellk hbr (hlk k hlt)
      have hj := hJ k hlt
      obtain ⟨j, hjj⟩ : ∃ j, j = J k := ⟨_, rfl⟩
      simp only [← hjj] at e1 e2 e3 hj
      clear hjj hJ h20 h22 hlk hc20 hc22
      have heq := neq44
      go_upto_region 25 with fail
      go_quiet (fail)
      go_wp2_with fail
      go_roundw
      case rel => exact ⟨k + 1, by omega, by go_num, below_drewN hbr _⟩
      case measure => simp [intOf]; omega
    · have hin : L = k := by omega
      subst hin
      go_wp2_with fail
      all_goals exact hbr

set_option maxRecDepth 100000 in
set_option maxHeartbeats 4000000 in
theorem loopB (cd : Code) (hcd : Try.f4.body.bind (blk? 2) = some cd) (Q : Exit → Act → World → Prop) (L K : Nat) (J : Nat → Nat) (a22 a26 : Option Addr) (c22 c26 : Nat) (w : World)
    (hL : L ≤ 4096) (hK : L + 1 ≤ K) (hK2 : K ≤ 4096) (h22 : Nums w a22 K (fun k => np (J k))) (h26 : Nums w a26 L (fun k => np (J (k + 1))))
    (x0 x1 x2 x3 x4 x5 x6 x7 x8 x9 x10 x11 x12 x13 x14 x15 x16 x17 x18 x19 x20 x21 x23 x24 x25 x28 x29 x30 x31 x32 x33 x34 x35 x36 x37 x38 x39 x40 x41 x42 x43 x44 x45 x46 x47 x48 x49 x50 x51 x52 x53 x54 x55 x56 x57 x58 x59 x60 x61 x62 x63 x64 x65 x66 x67 x68 x69 x70 x71 x72 x73 x74 x75 x76 x77 x78 x79 x80 x81 x82 x83 x84 x85 x86 x87 x88 x89 x90 x91 x92 x93 x94 x95 x96 x97 x98 x99 x100 x101 x102 x103 x104 x105 x106 x107 x108 x109 x110 x111 x112 x113 x114 x115 x116 x117 x118 x119 x120 x121 x122 x123 x124 x125 x126 x127 x128 x129 x130 x131 x132 x133 x134 x135 x136 x137 x138 x139 x140 x141 x142 x143 x144 x145 x146 x147 x148 x149 x150 x151 x152 x153 x154 x155 x156 x157 x158 x159 x160 x161 x162 x163 x164 x165 x166 x167 x168 x169 x170 x171 x172 x173 x174 x175 x176 x177 x178 x179 x180 x181 x182 x183 x184 x185 x186 x187 x188 x189 x190 x191 x192 x193 x194 x195 x196 x197 x198 x199 x200 x201 x202 x203 x204 x205 x206 x207 x208 x209 x210 x211 x212 x213 x214 x215 x216 x217 x218 x219 x220 x221 x222 x223 x224 x225 x226 x227 x228 : Value)
    (hQ : ∀ (y10 y27 y191 y192 y193 y194 y195 y196 y197 y198 y199 y200 y201 y202 y203 y204 y205 y206 : Value) (w' : World), Below w.heap.size w w' → Q .normal { tmps := #[x0, x1, x2, x3, x4, x5, x6, x7, x8, x9, y10, x11, x12, x13, x14, x15, x16, x17, x18, x19, x20, x21, .slice a22 K c22, x23, x24, x25, .slice a26 L c26, y27, x28, x29, x30, x31, x32, x33, x34, x35, x36, x37, x38, x39, x40, x41, x42, x43, x44, x45, x46, x47, x48, x49, x50, x51, x52, x53, x54, x55, x56, x57, x58, x59, x60, x61, x62, x63, x64, x65, x66, x67, x68, x69, x70, x71, x72, x73, x74, x75, x76, x77, x78, x79, x80, x81, x82, x83, x84, x85, x86, x87, x88, x89, x90, x91, x92, x93, x94, x95, x96, x97, x98, x99, x100, x101, x102, x103, x104, x105, x106, x107, x108, x109, x110, x111, x112, x113, x114, x115, x116, x117, x118, x119, x120, x121, x122, x123, x124, x125, x126, x127, x128, x129, x130, x131, x132, x133, x134, x135, x136, x137, x138, x139, x140, x141, x142, x143, x144, x145, x146, x147, x148, x149, x150, x151, x152, x153, x154, x155, x156, x157, x158, x159, x160, x161, x162, x163, x164, x165, x166, x167, x168, x169, x170, x171, x172, x173, x174, x175, x176, x177, x178, x179, x180, x181, x182, x183, x184, x185, x186, x187, x188, x189, x190, y191, y192, y193, y194, y195, y196, y197, y198, y199, y200, y201, y202, y203, y204, y205, y206, x207, x208, x209, x210, x211, x212, x213, x214, x215, x216, x217, x218, x219, x220, x221, x222, x223, x224, x225, x226, x227, x228], defers := [] } w') :
    cd.wp Try.prog Q { tmps := #[x0, x1, x2, x3, x4, x5, x6, x7, x8, x9, x10, x11, x12, x13, x14, x15, x16, x17, x18, x19, x20, x21, .slice a22 K c22, x23, x24, x25, .slice a26 L c26, .int .i64 0, x28, x29, x30, x31, x32, x33, x34, x35, x36, x37, x38, x39, x40, x41, x42, x43, x44, x45, x46, x47, x48, x49, x50, x51, x52, x53, x54, x55, x56, x57, x58, x59, x60, x61, x62, x63, x64, x65, x66, x67, x68, x69, x70, x71, x72, x73, x74, x75, x76, x77, x78, x79, x80, x81, x82, x83, x84, x85, x86, x87, x88, x89, x90, x91, x92, x93, x94, x95, x96, x97, x98, x99, x100, x101, x102, x103, x104, x105, x106, x107, x108, x109, x110, x111, x112, x113, x114, x115, x116, x117, x118, x119, x120, x121, x122, x123, x124, x125, x126, x127, x128, x129, x130, x131, x132, x133, x134, x135, x136, x137, x138, x139, x140, x141, x142, x143, x144, x145, x146, x147, x148, x149, x150, x151, x152, x153, x154, x155, x156, x157, x158, x159, x160, x161, x162, x163, x164, x165, x166, x167, x168, x169, x170, x171, x172, x173, x174, x175, x176, x177, x178, x179, x180, x181, x182, x183, x184, x185, x186, x187, x188, x189, x190, x191, x192, x193, x194, x195, x196, x197, x198, x199, x200, x201, x202, x203, x204, x205, x206, x207, x208, x209, x210, x211, x212, x213, x214, x215, x216, x217, x218, x219, x220, x221, x222, x223, x224, x225, x226, x227, x228], defers := [] } w := by
  have hc' : Try.f4.body.bind (blk? 2) = some _ := rfl
  cases hc'.symm.trans hcd
  clear hcd hc'
  go_wp2_with fail
  go_loopw [27] (fun v wr => ∃ k : Nat, k ≤ L ∧ v = .int .i64 k ∧ Below w.heap.size w wr) (fun v _ => L - (intOf v).toNat)
  case atStart => exact ⟨0, Nat.zero_le _, rfl, Below.refl _ _⟩
  case round =>
    obtain ⟨k, hk, rfl, hbr⟩ := hrel
    by_cases hlt : k < L
    · obtain ⟨b22, o22, rfl, hb22, hc22⟩ := h22 (by omega)
      obtain ⟨b26, o26, rfl, hb26, hc26⟩ := h26 (by omega)
      have e1 := cellk hbr (hc26 k hlt)
      have e2 := cellk hbr (hc22 (k + 1) (by omega))
      obtain ⟨j, hjj⟩ : ∃ j, j = J (k + 1) := ⟨_, rfl⟩
      simp only [← hjj] at e1 e2
      clear hjj h22 h26 hc22 hc26
      have heq := neq44
      go_upto_region 38 with fail
      go_quiet (fail)
      go_wp2_with fail
      go_roundw
      case rel => exact ⟨k + 1, by omega, by go_num, below_drewN hbr _⟩
      case measure => simp [intOf]; omega
    · have hin : L = k := by omega
      subst hin
      go_wp2_with fail
      all_goals exact hbr

end Go.Proofs.Qxb6613771a
