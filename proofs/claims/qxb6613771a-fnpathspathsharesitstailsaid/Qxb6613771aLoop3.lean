/-
  buildPaths' third loop: the search from each node.
-/
import Derived.Test.Qxb6613771aLoop5l
namespace Go.Proofs.Qxb6613771a
open Go.RowKit
set_option linter.unusedVariables false

/-- What the third loop leaves. -/
def Out3 (n D : Nat) (P : Nat → Int) (B : Nat → Nat) (C : Nat → Int) (LB : Nat → Nat) (sb bb cb hb tb : Nat) (w6 : World) (w' : World) : Prop :=
  ∃ s, DS n D P B C LB sb bb cb hb tb w' s ∧ SInv n D P n s ∧ Below sb w6 w'

set_option maxRecDepth 100000 in
set_option maxHeartbeats 4000000 in
theorem loop3 (cd : Code) (hcd : Try.f7.body.bind (blk? 4) = some cd) (Q : Exit → Act → World → Prop) (n D : Nat) (P : Nat → Int) (a1 a2 : Option Addr) (l1 c1 l2 c2 : Nat) (F1 : Nat → Nat) (F2 : Nat → Int) (LB : Nat → Nat) (lb sb bb cb hb tb : Nat) (b0 o0 c0 g' cap : Nat) (s : Sx) (w6 w : World)
    (hn : n ≤ 4096) (hl1 : l1 ≤ 4096) (hl2 : l2 ≤ 4096) (hDn : D < n)
    (hb0 : b0 < sb) (hc0 : ∀ j, j < n → w6.cell? ⟨b0, o0 + j, none⟩ = some (.int .i64 (P j))) (hs6 : w6.heap.size = sb)
    (hnB : Nums w6 a1 l1 (fun i => .float .f64 (F1 i))) (hnC : Nums w6 a2 l2 (fun i => .int .i64 (F2 i)))
    (hlb : lb < sb) (hlk : ∀ j, j < n → j ≠ D → 0 ≤ P j → P j < n → w6.cell? ⟨lb, j, none⟩ = some (np (LB j)))
    (hds : DS n D P (bwV l1 F1) (clV l2 F2) LB sb bb cb hb tb w s) (hinv : SInv n D P 0 s) (hown : w.ownsRow (tb + 1) 3 1 (.slice (some ⟨g', 0, none⟩) 0 cap) 0 []) (hb6 : Below sb w6 w)
    (x4 x5 x6 x7 x8 x9 x10 x11 x13 x14 x15 x16 x18 x19 x20 x28 x29 x30 x31 x32 x33 x34 x35 x36 x37 x38 x39 x40 x41 x42 x43 x44 x45 x46 x47 x48 x49 x50 x51 x52 x53 x54 x55 x56 x57 x58 x59 x60 x61 x62 x63 x64 x65 x66 x67 x68 x69 x70 x71 x72 x73 x74 x75 x76 x77 x78 x79 x80 x81 x82 x83 x84 x85 x86 x87 x88 x89 x90 x91 x92 x93 x94 x95 x96 x97 x98 x99 x100 x101 x102 x103 x104 x105 x106 x107 x108 x109 x110 x111 x112 x113 x114 x115 x116 x117 x118 x119 x120 x121 x122 x123 x124 x125 x126 x127 x128 x129 x130 x131 x132 x133 x134 x135 x136 x137 x138 x139 x140 x141 x142 x143 x144 x145 x146 x147 x148 x149 x150 x151 x152 x153 x154 x155 x156 x157 x158 x159 x160 x161 x162 x163 x164 x165 x166 x167 x168 x169 x170 x171 x172 x173 x174 x175 x176 x177 x178 x179 x180 x181 x182 x183 x184 x185 x186 x187 x188 x189 x190 x191 x192 x193 x194 x195 x196 x197 x198 x199 x200 x201 x202 x203 x204 x205 x206 x207 x208 x209 x210 x211 x212 x213 x214 x215 x216 x217 x218 x219 x220 x221 x222 x223 x224 x225 x226 x227 x228 x229 x230 x231 x232 x233 x234 x235 x236 x237 x238 x239 x240 x241 x242 x243 x244 x245 x246 x247 x248 x249 x250 x251 x252 x253 x254 x255 x256 x257 x258 x259 x260 x261 x262 : Value)
    (hQ : ∀ (y26 y27 y28 y29 y30 y31 y32 y33 y34 y35 y128 y129 y130 y131 y132 y133 y134 y135 y136 y137 y138 y139 y140 y141 y142 y143 y144 y145 y146 y147 y148 y149 y150 y151 y152 y153 y154 y155 y156 y157 y158 y159 y160 y161 y162 y163 y164 y165 y166 y167 y168 y169 y170 y171 y172 y173 y174 y175 y176 y177 y178 y179 y180 y181 y182 y183 y184 y185 y186 y187 y188 y189 y190 y191 y192 y193 y194 y195 y196 y197 y198 y199 y200 y201 y202 y203 y204 y205 y206 y207 y208 y209 y210 y211 y212 y213 y214 y215 y216 y217 y218 y219 y220 y221 y222 y223 y224 y225 y226 y227 y228 y229 y230 y231 y232 y233 y234 y235 y236 y237 y238 y239 y240 y241 y242 y243 y244 y245 y246 y247 y248 y249 y250 : Value) (w' : World), Out3 n D P (bwV l1 F1) (clV l2 F2) LB sb bb cb hb tb w6 w' →
      Q .normal { tmps := #[.slice (some ⟨b0, o0, none⟩) n c0, .slice a1 l1 c1, .slice a2 l2 c2, .int .i64 D, x4, x5, x6, x7, x8, x9, x10, x11, .int .i64 n, x13, x14, x15, x16, .slice (some ⟨lb, 0, none⟩) n n, x18, x19, x20, .slice (some ⟨sb, 0, none⟩) n n, .slice (some ⟨bb, 0, none⟩) n n, .slice (some ⟨cb, 0, none⟩) n n, .slice (some ⟨hb, 0, none⟩) n n, .slice (some ⟨tb, 0, none⟩) n n, y26, y27, y28, y29, y30, y31, y32, y33, y34, y35, x36, x37, x38, x39, x40, x41, x42, x43, x44, x45, x46, x47, x48, x49, x50, x51, x52, x53, x54, x55, x56, x57, x58, x59, x60, x61, x62, x63, x64, x65, x66, x67, x68, x69, x70, x71, x72, x73, x74, x75, x76, x77, x78, x79, x80, x81, x82, x83, x84, x85, x86, x87, x88, x89, x90, x91, x92, x93, x94, x95, x96, x97, x98, x99, x100, x101, x102, x103, x104, x105, x106, x107, x108, x109, x110, x111, x112, x113, x114, x115, x116, x117, x118, x119, x120, x121, x122, x123, x124, x125, x126, x127, y128, y129, y130, y131, y132, y133, y134, y135, y136, y137, y138, y139, y140, y141, y142, y143, y144, y145, y146, y147, y148, y149, y150, y151, y152, y153, y154, y155, y156, y157, y158, y159, y160, y161, y162, y163, y164, y165, y166, y167, y168, y169, y170, y171, y172, y173, y174, y175, y176, y177, y178, y179, y180, y181, y182, y183, y184, y185, y186, y187, y188, y189, y190, y191, y192, y193, y194, y195, y196, y197, y198, y199, y200, y201, y202, y203, y204, y205, y206, y207, y208, y209, y210, y211, y212, y213, y214, y215, y216, y217, y218, y219, y220, y221, y222, y223, y224, y225, y226, y227, y228, y229, y230, y231, y232, y233, y234, y235, y236, y237, y238, y239, y240, y241, y242, y243, y244, y245, y246, y247, y248, y249, y250, x251, x252, x253, x254, x255, x256, x257, x258, x259, x260, x261, x262], defers := [] } w') :
    cd.wp Try.prog Q { tmps := #[.slice (some ⟨b0, o0, none⟩) n c0, .slice a1 l1 c1, .slice a2 l2 c2, .int .i64 D, x4, x5, x6, x7, x8, x9, x10, x11, .int .i64 n, x13, x14, x15, x16, .slice (some ⟨lb, 0, none⟩) n n, x18, x19, x20, .slice (some ⟨sb, 0, none⟩) n n, .slice (some ⟨bb, 0, none⟩) n n, .slice (some ⟨cb, 0, none⟩) n n, .slice (some ⟨hb, 0, none⟩) n n, .slice (some ⟨tb, 0, none⟩) n n, .slice (some ⟨g', 0, none⟩) 0 cap, .int .i64 0, x28, x29, x30, x31, x32, x33, x34, x35, x36, x37, x38, x39, x40, x41, x42, x43, x44, x45, x46, x47, x48, x49, x50, x51, x52, x53, x54, x55, x56, x57, x58, x59, x60, x61, x62, x63, x64, x65, x66, x67, x68, x69, x70, x71, x72, x73, x74, x75, x76, x77, x78, x79, x80, x81, x82, x83, x84, x85, x86, x87, x88, x89, x90, x91, x92, x93, x94, x95, x96, x97, x98, x99, x100, x101, x102, x103, x104, x105, x106, x107, x108, x109, x110, x111, x112, x113, x114, x115, x116, x117, x118, x119, x120, x121, x122, x123, x124, x125, x126, x127, x128, x129, x130, x131, x132, x133, x134, x135, x136, x137, x138, x139, x140, x141, x142, x143, x144, x145, x146, x147, x148, x149, x150, x151, x152, x153, x154, x155, x156, x157, x158, x159, x160, x161, x162, x163, x164, x165, x166, x167, x168, x169, x170, x171, x172, x173, x174, x175, x176, x177, x178, x179, x180, x181, x182, x183, x184, x185, x186, x187, x188, x189, x190, x191, x192, x193, x194, x195, x196, x197, x198, x199, x200, x201, x202, x203, x204, x205, x206, x207, x208, x209, x210, x211, x212, x213, x214, x215, x216, x217, x218, x219, x220, x221, x222, x223, x224, x225, x226, x227, x228, x229, x230, x231, x232, x233, x234, x235, x236, x237, x238, x239, x240, x241, x242, x243, x244, x245, x246, x247, x248, x249, x250, x251, x252, x253, x254, x255, x256, x257, x258, x259, x260, x261, x262], defers := [] } w := by
  have hc' : Try.f7.body.bind (blk? 4) = some _ := rfl
  cases hc'.symm.trans hcd
  clear hcd hc'
  have HK : Hid (∀ j, j < n → j ≠ D → 0 ≤ P j → P j < n → w6.cell? ⟨lb, j, none⟩ = some (np (LB j))) := hlk
  have HC : Hid (∀ j, j < n → w6.cell? ⟨b0, o0 + j, none⟩ = some (.int .i64 (P j))) := hc0
  clear hlk hc0
  go_wp2_with fail
  go_loopw [26, 27] (fun v vi wr => ∃ (i : Nat) (s : Sx) (k g' cap : Nat) (xs : List Value), i ≤ n ∧ vi = .int .i64 i ∧ v = .slice (some ⟨g', 0, none⟩) k cap ∧ DS n D P (bwV l1 F1) (clV l2 F2) LB sb bb cb hb tb wr s ∧ Hid (SInv n D P i s) ∧ wr.ownsRow (tb + 1) 3 1 (.slice (some ⟨g', 0, none⟩) k cap) k xs ∧ Below sb w6 wr) (fun _ vi _ => n - (intOf vi).toNat)
  case atStart => exact ⟨0, s, 0, g', cap, [], Nat.zero_le _, rfl, rfl, hds, hinv, hown, hb6⟩
  case round =>
    obtain ⟨i, s, k, g', cap, xs, hi, rfl, rfl, hd, HI, ho, hbl⟩ := hrel
    clear hds hown hb6 hinv
    by_cases hlt : i < n
    · have ho0 : wr.ownsRow (tb + 1) 3 1 (.slice (some ⟨g', 0, none⟩) 0 cap) 0 [] := by
        obtain ⟨_, ⟨h1, _⟩ | ⟨g1, cap1, cur, h1, h2, h3, h4, h5, h6, h7⟩⟩ := ho
        · simp at h1
        · simp at h1
          obtain ⟨rfl, rfl⟩ := h1
          exact ⟨by simp, .inr ⟨g', cap, cur, rfl, h2, h3, by omega, h5, h6, by simp⟩⟩
      have hkc : k ≤ cap := by
        obtain ⟨_, ⟨h1, _⟩ | ⟨g1, cap1, cur, h1, h2, h3, h4, h5, h6, h7⟩⟩ := ho
        · simp at h1
        · simp at h1
          obtain ⟨rfl, rfl⟩ := h1
          exact h4
      have hsbr : sb ≤ wr.heap.size := Nat.le_of_lt hd.st.lt
      go_upto_block 6 with fail
      refine loop4 _ rfl _ n D P (bwV l1 F1) (clV l2 F2) LB sb bb cb hb tb b0 o0 c0 g' cap i s w6 wr hn hDn hlt hb0 HC.out hd HI ho0 hbl hsbr _ _ _ _ _ _ _ _ _ _ _ _ _ _ _ _ _ _ _ _ _ _ _ _ _ _ _ _ _ _ _ _ _ _ _ _ _ _ _ _ _ _ _ _ _ _ _ _ _ _ _ _ _ _ _ _ _ _ _ _ _ _ _ _ _ _ _ _ _ _ _ _ _ _ _ _ _ _ _ _ _ _ _ _ _ _ _ _ _ _ _ _ _ _ _ _ _ _ _ _ _ _ _ _ _ _ _ _ _ _ _ _ _ _ _ _ _ _ _ _ _ _ _ _ _ _ _ _ _ _ _ _ _ _ _ _ _ _ _ _ _ _ _ _ _ _ _ _ _ _ _ _ _ _ _ _ _ _ _ _ _ _ _ _ _ _ _ _ _ _ _ _ _ _ _ _ _ _ _ _ _ _ _ _ _ _ _ _ _ _ _ _ _ _ _ _ _ _ _ _ _ _ _ _ _ _ _ _ _ _ _ _ _ _ _ _ _ _ _ _ _ _ _ _ _ _ _ _ _ _ _ _ _ _ _ _ _ _ _ _ _ _ _ _ _ _ _ _ _ _ _ _ _ _ _ _ _ _ ?_
      intro z26 z28 z29 z136 z137 z138 z139 z140 z141 z142 z143 z144 z145 z146 z147 z148 z149 z150 z151 z152 z153 z154 z155 z156 z157 z158 z159 w2 hout4
      obtain ⟨c, cur, g2, cap2, rfl, rfl, hst, hend, hci, hd2, ho2, hb2⟩ := hout4
      clear hd ho ho0 hbl hsbr hkc
      have HST : Hid (Stk n s i c) := hst
      have HCI : Hid (c = [] → s.S i = 2) := hci
      obtain ⟨L, hL⟩ : ∃ L, L = c.length := ⟨_, rfl⟩
      have hLn : L ≤ n := by rw [hL]; exact hst.length_le
      rw [← hL] at ho2
      simp only [← hL]
      have HL : Hid (c.length = L) := hL.symm
      clear hL hst hci
      rcases hend with ⟨k2, g0, rfl, hk2, hw, hkc, hS2, hG2⟩ | ⟨hdead, hcase⟩
      · have hcs : w2.cell? ⟨tb, k2, none⟩ = some (.int .i64 2) := hd2.sta.cell' hk2 (by show Value.int .i64 ((mark s.S c 1 k2 : Nat) : Int) = _; simp [mark, hkc, hS2])
        have hcg : w2.cell? ⟨sb, k2, none⟩ = some (np g0) := hd2.st.cell' hk2 (by show gp (s.G k2) = _; rw [hG2]; rfl)
        have hz : ∀ x ∈ c, s.G x = none := fun x hx => HI.out.zero x (HST.out.el x hx).1 (HST.out.el x hx).2
        have HA : Hid (Way n D P c i k2 ∧ k2 ∉ c ∧ s.G k2 = some g0 ∧ ∀ x ∈ c, s.G x = none) := ⟨hw, hkc, hG2, hz⟩
        clear hw hkc hG2 hz hS2
        go_upto_block 8 with fail
        refine loop5l _ rfl _ n D P a1 a2 l1 c1 l2 c2 F1 F2 LB lb sb bb cb hb tb b0 o0 c0 g2 cap2 L i k2 g0 c s w6 w2 hn hl1 hl2 hDn HL.out hLn HST.out HA.out.1 hk2 HA.out.2.1 HA.out.2.2.1 HA.out.2.2.2 hb0 HC.out hs6 hnB hnC hlb HK.out hd2 ho2 hb2 _ _ _ _ _ _ _ _ _ _ _ _ _ _ _ _ _ _ _ _ _ _ _ _ _ _ _ _ _ _ _ _ _ _ _ _ _ _ _ _ _ _ _ _ _ _ _ _ _ _ _ _ _ _ _ _ _ _ _ _ _ _ _ _ _ _ _ _ _ _ _ _ _ _ _ _ _ _ _ _ _ _ _ _ _ _ _ _ _ _ _ _ _ _ _ _ _ _ _ _ _ _ _ _ _ _ _ _ _ _ _ _ _ _ _ _ _ _ _ _ _ _ _ _ _ _ _ _ _ _ _ _ _ _ _ _ _ _ _ _ _ _ _ _ _ _ _ _ _ _ _ _ _ _ _ _ _ _ _ _ _ _ _ _ _ _ _ _ _ _ _ _ _ _ _ _ _ _ _ _ _ _ _ _ _ _ _ _ _ _ _ _ _ _ _ _ _ _ _ _ _ _ _ _ _ _ _ _ _ _ _ _ _ _ _ _ _ _ _ _ _ _ _ _ _ _ _ _ _ _ _ _ _ _ _ _ _ _ _ _ _ _ _ _ _ _ _ _ _ ?_
        intro t31 t32 t33 t34 t35 t179 t180 t181 t182 t183 t184 t185 t186 t187 t188 t189 t190 t191 t192 t193 t194 t195 t196 t197 t198 t199 t200 t201 t202 t203 t204 t205 t206 t207 t208 t209 t210 t211 t212 t213 t214 t215 t216 t217 t218 t219 t220 t221 t222 t223 t224 t225 t226 t227 t228 t229 t230 t231 t232 t233 t234 t235 t236 t237 t238 t239 t240 t241 t242 t243 t244 t245 t246 t247 t248 t249 t250 w3 hout5
        obtain ⟨s2, hd3, hS3, hG3, hdead3, ho3, hb3⟩ := hout5
        have hnext := HI.out.next hDn hlt hS3 HST.out hG3 hdead3 HCI.out
        clear hS3 hG3 hdead3
        go_wp2_with fail
        go_roundw
        case rel => exact ⟨i + 1, s2, L, g2, cap2, _, by omega, by go_num, rfl, hd3, hnext, ho3, hb3⟩
        case measure => simp [intOf]; omega
      · have HDead : Hid (∀ x ∈ c, ∀ l, ¬ IsCh n D P l x) := hdead
        clear hdead
        rcases hcase with rfl | ⟨k2, rfl, hk2, hkc⟩ | ⟨k2, rfl, hk2, hkc, hS2, hG2⟩
        · go_upto_block 8 with fail
          refine loop5d _ rfl _ n D P (bwV l1 F1) (clV l2 F2) LB sb bb cb hb tb b0 o0 c0 g2 cap2 L c s w6 w2 hn HL.out hLn (fun x hx => (HST.out.el x hx).1) HDead.out hd2 ho2 hb2 _ _ _ _ _ _ _ _ _ _ _ _ _ _ _ _ _ _ _ _ _ _ _ _ _ _ _ _ _ _ _ _ _ _ _ _ _ _ _ _ _ _ _ _ _ _ _ _ _ _ _ _ _ _ _ _ _ _ _ _ _ _ _ _ _ _ _ _ _ _ _ _ _ _ _ _ _ _ _ _ _ _ _ _ _ _ _ _ _ _ _ _ _ _ _ _ _ _ _ _ _ _ _ _ _ _ _ _ _ _ _ _ _ _ _ _ _ _ _ _ _ _ _ _ _ _ _ _ _ _ _ _ _ _ _ _ _ _ _ _ _ _ _ _ _ _ _ _ _ _ _ _ _ _ _ _ _ _ _ _ _ _ _ _ _ _ _ _ _ _ _ _ _ _ _ _ _ _ _ _ _ _ _ _ _ _ _ _ _ _ _ _ _ _ _ _ _ _ _ _ _ _ _ _ _ _ _ _ _ _ _ _ _ _ _ _ _ _ _ _ _ _ _ _ _ _ _ _ _ _ _ _ _ _ _ _ _ _ _ _ _ _ _ _ _ _ _ _ _ _ _ _ _ _ _ _ _ ?_
          intro t31 t32 t33 t34 t35 t179 t180 t181 t182 t183 t184 t185 t186 t187 t188 t189 t190 t191 t192 t193 t194 t195 t196 t197 t198 t199 t200 t201 t202 t203 t204 t205 t206 t207 t208 t209 t210 t211 t212 t213 t214 t215 t216 t217 t218 t219 t220 t221 t222 t223 t224 t225 t226 t227 t228 t229 t230 t231 t232 t233 t234 t235 t236 t237 t238 t239 t240 t241 t242 t243 t244 t245 t246 t247 t248 t249 t250 w3 hout5
          obtain ⟨s2, hd3, hS3, hG3, hdead3, ho3, hb3⟩ := hout5
          have hnext := HI.out.next hDn hlt hS3 HST.out hG3 hdead3 HCI.out
          clear hS3 hG3 hdead3
          go_wp2_with fail
          go_roundw
          case rel => exact ⟨i + 1, s2, L, g2, cap2, _, by omega, by go_num, rfl, hd3, hnext, ho3, hb3⟩
          case measure => simp [intOf]; omega
        · have hcs : w2.cell? ⟨tb, k2, none⟩ = some (.int .i64 1) := hd2.sta.cell' hk2 (by show Value.int .i64 ((mark s.S c 1 k2 : Nat) : Int) = _; simp [mark, hkc])
          clear hkc
          go_upto_block 8 with fail
          refine loop5d _ rfl _ n D P (bwV l1 F1) (clV l2 F2) LB sb bb cb hb tb b0 o0 c0 g2 cap2 L c s w6 w2 hn HL.out hLn (fun x hx => (HST.out.el x hx).1) HDead.out hd2 ho2 hb2 _ _ _ _ _ _ _ _ _ _ _ _ _ _ _ _ _ _ _ _ _ _ _ _ _ _ _ _ _ _ _ _ _ _ _ _ _ _ _ _ _ _ _ _ _ _ _ _ _ _ _ _ _ _ _ _ _ _ _ _ _ _ _ _ _ _ _ _ _ _ _ _ _ _ _ _ _ _ _ _ _ _ _ _ _ _ _ _ _ _ _ _ _ _ _ _ _ _ _ _ _ _ _ _ _ _ _ _ _ _ _ _ _ _ _ _ _ _ _ _ _ _ _ _ _ _ _ _ _ _ _ _ _ _ _ _ _ _ _ _ _ _ _ _ _ _ _ _ _ _ _ _ _ _ _ _ _ _ _ _ _ _ _ _ _ _ _ _ _ _ _ _ _ _ _ _ _ _ _ _ _ _ _ _ _ _ _ _ _ _ _ _ _ _ _ _ _ _ _ _ _ _ _ _ _ _ _ _ _ _ _ _ _ _ _ _ _ _ _ _ _ _ _ _ _ _ _ _ _ _ _ _ _ _ _ _ _ _ _ _ _ _ _ _ _ _ _ _ _ _ _ _ _ _ _ _ _ ?_
          intro t31 t32 t33 t34 t35 t179 t180 t181 t182 t183 t184 t185 t186 t187 t188 t189 t190 t191 t192 t193 t194 t195 t196 t197 t198 t199 t200 t201 t202 t203 t204 t205 t206 t207 t208 t209 t210 t211 t212 t213 t214 t215 t216 t217 t218 t219 t220 t221 t222 t223 t224 t225 t226 t227 t228 t229 t230 t231 t232 t233 t234 t235 t236 t237 t238 t239 t240 t241 t242 t243 t244 t245 t246 t247 t248 t249 t250 w3 hout5
          obtain ⟨s2, hd3, hS3, hG3, hdead3, ho3, hb3⟩ := hout5
          have hnext := HI.out.next hDn hlt hS3 HST.out hG3 hdead3 HCI.out
          clear hS3 hG3 hdead3
          go_wp2_with fail
          go_roundw
          case rel => exact ⟨i + 1, s2, L, g2, cap2, _, by omega, by go_num, rfl, hd3, hnext, ho3, hb3⟩
          case measure => simp [intOf]; omega
        · have hcs : w2.cell? ⟨tb, k2, none⟩ = some (.int .i64 2) := hd2.sta.cell' hk2 (by show Value.int .i64 ((mark s.S c 1 k2 : Nat) : Int) = _; simp [mark, hkc, hS2])
          have hcg : w2.cell? ⟨sb, k2, none⟩ = some (.pointer none) := hd2.st.cell' hk2 (by show gp (s.G k2) = _; rw [hG2]; rfl)
          clear hkc hS2 hG2
          go_upto_block 8 with fail
          refine loop5d _ rfl _ n D P (bwV l1 F1) (clV l2 F2) LB sb bb cb hb tb b0 o0 c0 g2 cap2 L c s w6 w2 hn HL.out hLn (fun x hx => (HST.out.el x hx).1) HDead.out hd2 ho2 hb2 _ _ _ _ _ _ _ _ _ _ _ _ _ _ _ _ _ _ _ _ _ _ _ _ _ _ _ _ _ _ _ _ _ _ _ _ _ _ _ _ _ _ _ _ _ _ _ _ _ _ _ _ _ _ _ _ _ _ _ _ _ _ _ _ _ _ _ _ _ _ _ _ _ _ _ _ _ _ _ _ _ _ _ _ _ _ _ _ _ _ _ _ _ _ _ _ _ _ _ _ _ _ _ _ _ _ _ _ _ _ _ _ _ _ _ _ _ _ _ _ _ _ _ _ _ _ _ _ _ _ _ _ _ _ _ _ _ _ _ _ _ _ _ _ _ _ _ _ _ _ _ _ _ _ _ _ _ _ _ _ _ _ _ _ _ _ _ _ _ _ _ _ _ _ _ _ _ _ _ _ _ _ _ _ _ _ _ _ _ _ _ _ _ _ _ _ _ _ _ _ _ _ _ _ _ _ _ _ _ _ _ _ _ _ _ _ _ _ _ _ _ _ _ _ _ _ _ _ _ _ _ _ _ _ _ _ _ _ _ _ _ _ _ _ _ _ _ _ _ _ _ _ _ _ _ _ _ ?_
          intro t31 t32 t33 t34 t35 t179 t180 t181 t182 t183 t184 t185 t186 t187 t188 t189 t190 t191 t192 t193 t194 t195 t196 t197 t198 t199 t200 t201 t202 t203 t204 t205 t206 t207 t208 t209 t210 t211 t212 t213 t214 t215 t216 t217 t218 t219 t220 t221 t222 t223 t224 t225 t226 t227 t228 t229 t230 t231 t232 t233 t234 t235 t236 t237 t238 t239 t240 t241 t242 t243 t244 t245 t246 t247 t248 t249 t250 w3 hout5
          obtain ⟨s2, hd3, hS3, hG3, hdead3, ho3, hb3⟩ := hout5
          have hnext := HI.out.next hDn hlt hS3 HST.out hG3 hdead3 HCI.out
          clear hS3 hG3 hdead3
          go_wp2_with fail
          go_roundw
          case rel => exact ⟨i + 1, s2, L, g2, cap2, _, by omega, by go_num, rfl, hd3, hnext, ho3, hb3⟩
          case measure => simp [intOf]; omega
    · have hin : n = i := by omega
      subst hin
      have hout : Out3 n D P (bwV l1 F1) (clV l2 F2) LB sb bb cb hb tb w6 wr := ⟨s, hd, HI.out, hbl⟩
      clear hd ho hbl
      go_wp2_with fail
      all_goals exact hout
end Go.Proofs.Qxb6613771a
