/-
  buildPaths' fifth loop, where the search has reached a node that leads on: a step for each node of the stack.
-/
import Derived.Test.Qxb6613771aLoop5d
namespace Go.Proofs.Qxb6613771a
open Go.RowKit
set_option linter.unusedVariables false

/-- The nodes of the stack from m on have their steps. -/
structure Live (n : Nat) (s : Sx) (c : List Nat) (m : Nat) (s' : Sx) : Prop where
  S : ∀ j, j < n → s'.S j = mark (mark s.S c 1) (c.drop m) 2 j
  G : ∀ j, j < n → j ∉ c.drop m → s'.G j = s.G j
  N : ∀ x ∈ c.drop m, s'.G x ≠ none

theorem not_mem_drop {c : List Nat} (h : c.Nodup) {m : Nat} (hm : m < c.length) : c[m] ∉ c.drop (m + 1) := by
  have e : c.drop m = c[m] :: c.drop (m + 1) := List.drop_eq_getElem_cons hm
  have h1 : (c.drop m).Nodup := h.sublist (List.drop_sublist m c)
  rw [e] at h1
  exact (List.nodup_cons.1 h1).1

/-- What is known of node j = c[m] and of its parent p. -/
theorem Live.at {n D : Nat} {P : Nat → Int} {s s' : Sx} {i k g0 : Nat} {c : List Nat} {m : Nat} (h : Live n s c (m + 1) s') (hm : m < c.length) (hst : Stk n s i c) (hw : Way n D P c i k) (hk : k < n) (hkc : k ∉ c) (hg0 : s.G k = some g0) (hz : ∀ x ∈ c, s.G x = none) :
    ∃ p gq, p < n ∧ P c[m] = (p : Nat) ∧ c[m] ≠ D ∧ s'.G p = some gq ∧ s'.G c[m] = none ∧ p ≠ c[m] ∧ c[m] < n := by
  obtain ⟨h1, h2, h3, h4⟩ := hw.last m hm
  have hjn := (hst.el _ (List.getElem_mem hm)).1
  have hnd := not_mem_drop hst.nd hm
  have hGj : s'.G c[m] = none := by rw [h.G _ hjn hnd]; exact hz _ (List.getElem_mem hm)
  have hgp : ∃ gq, s'.G (P c[m]).toNat = some gq := by
    by_cases e : m + 1 < c.length
    · rw [dif_pos e] at h4
      rw [h4]
      have hx : c[m + 1] ∈ c.drop (m + 1) := by
        rw [List.drop_eq_getElem_cons e]; exact List.mem_cons_self
      exact Option.ne_none_iff_exists'.1 (h.N _ hx)
    · rw [dif_neg e] at h4
      rw [h4]
      exact ⟨g0, by rw [h.G k hk (fun hx => hkc (List.mem_of_mem_drop hx))]; exact hg0⟩
  obtain ⟨gq, hgq⟩ := hgp
  refine ⟨(P c[m]).toNat, gq, by omega, by omega, h1, hgq, hGj, fun e => ?_, hjn⟩
  rw [e, hGj] at hgq
  cases hgq

theorem Live.step {n : Nat} {s s' s2 : Sx} {c : List Nat} {m g : Nat} (h : Live n s c (m + 1) s') (hm : m < c.length) (hS : s2.S = upd s'.S c[m] 2) (hG : s2.G = upd s'.G c[m] (some g)) : Live n s c m s2 := by
  have e : c.drop m = c[m] :: c.drop (m + 1) := List.drop_eq_getElem_cons hm
  refine ⟨fun j hj => ?_, fun j hj hx => ?_, fun x hx => ?_⟩
  · rw [hS, ← mark_drop _ c m 2 hm]
    simp only [upd]
    split
    · rfl
    · exact h.S j hj
  · rw [e, List.mem_cons] at hx
    have hx1 : j ≠ c[m] := fun e => hx (.inl e)
    rw [hG, upd_other _ _ _ hx1]
    exact h.G j hj (fun e => hx (.inr e))
  · rw [hG]
    by_cases e1 : x = c[m]
    · rw [e1, upd_same]; simp
    · rw [upd_other _ _ _ e1]
      rw [e, List.mem_cons] at hx
      rcases hx with hx | hx
      · exact absurd hx e1
      · exact h.N x hx

set_option maxRecDepth 100000 in
set_option maxHeartbeats 4000000 in
theorem loop5l (cd : Code) (hcd : Try.f7.body.bind (blk? 8) = some cd) (Q : Exit → Act → World → Prop) (n D : Nat) (P : Nat → Int) (a1 a2 : Option Addr) (l1 c1 l2 c2 : Nat) (F1 : Nat → Nat) (F2 : Nat → Int) (LB : Nat → Nat) (lb sb bb cb hb tb : Nat) (b0 o0 c0 g' cap L i k g0 : Nat) (c : List Nat) (s : Sx) (w6 w : World)
    (hn : n ≤ 4096) (hl1 : l1 ≤ 4096) (hl2 : l2 ≤ 4096) (hDn : D < n) (hL : c.length = L) (hLn : L ≤ n) (hst : Stk n s i c) (hw : Way n D P c i k) (hk : k < n) (hkc : k ∉ c) (hg0 : s.G k = some g0) (hz : ∀ x ∈ c, s.G x = none)
    (hb0 : b0 < sb) (hc0 : ∀ j, j < n → w6.cell? ⟨b0, o0 + j, none⟩ = some (.int .i64 (P j))) (hs6 : w6.heap.size = sb)
    (hnB : Nums w6 a1 l1 (fun i => .float .f64 (F1 i))) (hnC : Nums w6 a2 l2 (fun i => .int .i64 (F2 i)))
    (hlb : lb < sb) (hlk : ∀ j, j < n → j ≠ D → 0 ≤ P j → P j < n → w6.cell? ⟨lb, j, none⟩ = some (np (LB j)))
    (hds : DS n D P (bwV l1 F1) (clV l2 F2) LB sb bb cb hb tb w { s with S := mark s.S c 1 }) (hown : w.ownsRow (tb + 1) 3 1 (.slice (some ⟨g', 0, none⟩) L cap) L (ints c)) (hb6 : Below sb w6 w)
    (x4 x5 x6 x7 x8 x9 x10 x11 x13 x14 x15 x16 x18 x19 x20 x27 x28 x29 x32 x33 x34 x35 x36 x37 x38 x39 x40 x41 x42 x43 x44 x45 x46 x47 x48 x49 x50 x51 x52 x53 x54 x55 x56 x57 x58 x59 x60 x61 x62 x63 x64 x65 x66 x67 x68 x69 x70 x71 x72 x73 x74 x75 x76 x77 x78 x79 x80 x81 x82 x83 x84 x85 x86 x87 x88 x89 x90 x91 x92 x93 x94 x95 x96 x97 x98 x99 x100 x101 x102 x103 x104 x105 x106 x107 x108 x109 x110 x111 x112 x113 x114 x115 x116 x117 x118 x119 x120 x121 x122 x123 x124 x125 x126 x127 x128 x129 x130 x131 x132 x133 x134 x135 x136 x137 x138 x139 x140 x141 x142 x143 x144 x145 x146 x147 x148 x149 x150 x151 x152 x153 x154 x155 x156 x157 x158 x159 x160 x161 x162 x163 x164 x165 x166 x167 x168 x169 x170 x171 x172 x173 x174 x175 x176 x177 x178 x179 x180 x181 x182 x183 x184 x185 x186 x187 x188 x189 x190 x191 x192 x193 x194 x195 x196 x197 x198 x199 x200 x201 x202 x203 x204 x205 x206 x207 x208 x209 x210 x211 x212 x213 x214 x215 x216 x217 x218 x219 x220 x221 x222 x223 x224 x225 x226 x227 x228 x229 x230 x231 x232 x233 x234 x235 x236 x237 x238 x239 x240 x241 x242 x243 x244 x245 x246 x247 x248 x249 x250 x251 x252 x253 x254 x255 x256 x257 x258 x259 x260 x261 x262 : Value)
    (hQ : ∀ (y31 y32 y33 y34 y35 y179 y180 y181 y182 y183 y184 y185 y186 y187 y188 y189 y190 y191 y192 y193 y194 y195 y196 y197 y198 y199 y200 y201 y202 y203 y204 y205 y206 y207 y208 y209 y210 y211 y212 y213 y214 y215 y216 y217 y218 y219 y220 y221 y222 y223 y224 y225 y226 y227 y228 y229 y230 y231 y232 y233 y234 y235 y236 y237 y238 y239 y240 y241 y242 y243 y244 y245 y246 y247 y248 y249 y250 : Value) (w' : World), Out5 n D P (bwV l1 F1) (clV l2 F2) LB sb bb cb hb tb s c w6 g' L cap w' →
      Q .normal { tmps := #[.slice (some ⟨b0, o0, none⟩) n c0, .slice a1 l1 c1, .slice a2 l2 c2, .int .i64 D, x4, x5, x6, x7, x8, x9, x10, x11, .int .i64 n, x13, x14, x15, x16, .slice (some ⟨lb, 0, none⟩) n n, x18, x19, x20, .slice (some ⟨sb, 0, none⟩) n n, .slice (some ⟨bb, 0, none⟩) n n, .slice (some ⟨cb, 0, none⟩) n n, .slice (some ⟨hb, 0, none⟩) n n, .slice (some ⟨tb, 0, none⟩) n n, .slice (some ⟨g', 0, none⟩) L cap, x27, x28, x29, .bool true, y31, y32, y33, y34, y35, x36, x37, x38, x39, x40, x41, x42, x43, x44, x45, x46, x47, x48, x49, x50, x51, x52, x53, x54, x55, x56, x57, x58, x59, x60, x61, x62, x63, x64, x65, x66, x67, x68, x69, x70, x71, x72, x73, x74, x75, x76, x77, x78, x79, x80, x81, x82, x83, x84, x85, x86, x87, x88, x89, x90, x91, x92, x93, x94, x95, x96, x97, x98, x99, x100, x101, x102, x103, x104, x105, x106, x107, x108, x109, x110, x111, x112, x113, x114, x115, x116, x117, x118, x119, x120, x121, x122, x123, x124, x125, x126, x127, x128, x129, x130, x131, x132, x133, x134, x135, x136, x137, x138, x139, x140, x141, x142, x143, x144, x145, x146, x147, x148, x149, x150, x151, x152, x153, x154, x155, x156, x157, x158, x159, x160, x161, x162, x163, x164, x165, x166, x167, x168, x169, x170, x171, x172, x173, x174, x175, x176, x177, x178, y179, y180, y181, y182, y183, y184, y185, y186, y187, y188, y189, y190, y191, y192, y193, y194, y195, y196, y197, y198, y199, y200, y201, y202, y203, y204, y205, y206, y207, y208, y209, y210, y211, y212, y213, y214, y215, y216, y217, y218, y219, y220, y221, y222, y223, y224, y225, y226, y227, y228, y229, y230, y231, y232, y233, y234, y235, y236, y237, y238, y239, y240, y241, y242, y243, y244, y245, y246, y247, y248, y249, y250, x251, x252, x253, x254, x255, x256, x257, x258, x259, x260, x261, x262], defers := [] } w') :
    cd.wp Try.prog Q { tmps := #[.slice (some ⟨b0, o0, none⟩) n c0, .slice a1 l1 c1, .slice a2 l2 c2, .int .i64 D, x4, x5, x6, x7, x8, x9, x10, x11, .int .i64 n, x13, x14, x15, x16, .slice (some ⟨lb, 0, none⟩) n n, x18, x19, x20, .slice (some ⟨sb, 0, none⟩) n n, .slice (some ⟨bb, 0, none⟩) n n, .slice (some ⟨cb, 0, none⟩) n n, .slice (some ⟨hb, 0, none⟩) n n, .slice (some ⟨tb, 0, none⟩) n n, .slice (some ⟨g', 0, none⟩) L cap, x27, x28, x29, .bool true, .int .i64 ((L : Int) - 1), x32, x33, x34, x35, x36, x37, x38, x39, x40, x41, x42, x43, x44, x45, x46, x47, x48, x49, x50, x51, x52, x53, x54, x55, x56, x57, x58, x59, x60, x61, x62, x63, x64, x65, x66, x67, x68, x69, x70, x71, x72, x73, x74, x75, x76, x77, x78, x79, x80, x81, x82, x83, x84, x85, x86, x87, x88, x89, x90, x91, x92, x93, x94, x95, x96, x97, x98, x99, x100, x101, x102, x103, x104, x105, x106, x107, x108, x109, x110, x111, x112, x113, x114, x115, x116, x117, x118, x119, x120, x121, x122, x123, x124, x125, x126, x127, x128, x129, x130, x131, x132, x133, x134, x135, x136, x137, x138, x139, x140, x141, x142, x143, x144, x145, x146, x147, x148, x149, x150, x151, x152, x153, x154, x155, x156, x157, x158, x159, x160, x161, x162, x163, x164, x165, x166, x167, x168, x169, x170, x171, x172, x173, x174, x175, x176, x177, x178, x179, x180, x181, x182, x183, x184, x185, x186, x187, x188, x189, x190, x191, x192, x193, x194, x195, x196, x197, x198, x199, x200, x201, x202, x203, x204, x205, x206, x207, x208, x209, x210, x211, x212, x213, x214, x215, x216, x217, x218, x219, x220, x221, x222, x223, x224, x225, x226, x227, x228, x229, x230, x231, x232, x233, x234, x235, x236, x237, x238, x239, x240, x241, x242, x243, x244, x245, x246, x247, x248, x249, x250, x251, x252, x253, x254, x255, x256, x257, x258, x259, x260, x261, x262], defers := [] } w := by
  have hc' : Try.f7.body.bind (blk? 8) = some _ := rfl
  cases hc'.symm.trans hcd
  clear hcd hc'
  have HL : Hid (c.length = L) := hL
  have HA : Hid (Stk n s i c ∧ Way n D P c i k ∧ k < n ∧ k ∉ c ∧ s.G k = some g0 ∧ ∀ x ∈ c, s.G x = none) := ⟨hst, hw, hk, hkc, hg0, hz⟩
  have HK : Hid (∀ j, j < n → j ≠ D → 0 ≤ P j → P j < n → w6.cell? ⟨lb, j, none⟩ = some (np (LB j))) := hlk
  have HC : Hid (∀ j, j < n → w6.cell? ⟨b0, o0 + j, none⟩ = some (.int .i64 (P j))) := hc0
  have conv : ∀ W, Below sb w6 W → Below w6.heap.size w6 W := fun W h => by rw [hs6]; exact h
  clear hL hst hw hk hkc hg0 hz hlk hc0
  have hfl := float_store
  go_wp2_with fail
  go_loopw [31] (fun vk wr => ∃ (m : Nat) (s' : Sx), m ≤ L ∧ vk = .int .i64 ((m : Int) - 1) ∧ DS n D P (bwV l1 F1) (clV l2 F2) LB sb bb cb hb tb wr s' ∧ Hid (Live n s c m s') ∧ wr.ownsRow (tb + 1) 3 1 (.slice (some ⟨g', 0, none⟩) L cap) L (ints c) ∧ Below sb w6 wr) (fun vk _ => (intOf vk + 1).toNat)
  case atStart =>
    refine ⟨L, _, Nat.le_refl _, rfl, hds, ⟨fun j hj => ?_, fun j hj hx => rfl, fun x hx => ?_⟩, hown, hb6⟩
    · rw [← HL.out, List.drop_length, mark_nil]
    · rw [← HL.out, List.drop_length] at hx; cases hx
  case round =>
    obtain ⟨m, s', hm, rfl, hd, HV, ho, hbl⟩ := hrel
    clear hds hown hb6
    cases m with
    | zero =>
      have hout : Out5 n D P (bwV l1 F1) (clV l2 F2) LB sb bb cb hb tb s c w6 g' L cap wr := by
        refine ⟨s', hd, fun j hj => ?_, fun j hj hx => HV.out.G j hj (fun h => hx (List.mem_of_mem_drop h)), fun x hx h => absurd h (HV.out.N x (by simpa using hx)), ho, hbl⟩
        rw [HV.out.S j hj, mark_all]
      clear hd ho hbl
      go_wp2_with fail
      all_goals exact hout
    | succ m =>
      have hmc : m < c.length := by rw [HL.out]; omega
      obtain ⟨hcell, hmL, hLc⟩ := owns_cell ho hmc HL.out
      obtain ⟨hst, hw, hk, hkc, hg0, hz⟩ := HA.out
      obtain ⟨p, gq, hpn, hPj, hjD, hGp, hGj, hpj, hjn⟩ := HV.out.at hmc hst hw hk hkc hg0 hz
      have HS : Hid (∀ (s2 : Sx) (g : Nat), s2.S = upd s'.S c[m] 2 → s2.G = upd s'.G c[m] (some g) → Live n s c m s2) := fun s2 g h1 h2 => HV.out.step hmc h1 h2
      obtain ⟨l, hch, hCh, hf2, hf3, hf4⟩ := hd.good p gq hpn hGp
      have hp0 := HC.out _ hjn
      have hlk0 := HK.out _ hjn hjD (by omega) (by omega)
      clear hst hw hk hkc hg0 hz HV
      obtain ⟨j, hj⟩ : ∃ j, j = c[m] := ⟨_, rfl⟩
      rw [← hj] at hcell hjn hPj hjD hGj hpj hp0 hlk0 HS
      rw [hPj] at hp0
      have HPj : Hid (P j = (p : Nat)) := hPj
      clear hj hPj
      have hch2 : IsCh n D P (j :: l) j := ⟨rfl, hjD, by rw [HPj.out]; omega, by rw [HPj.out]; omega, by rw [HPj.out]; simpa using hch⟩
      have hcs := hd.sta.cell hjn
      have hfs := hd.sta.frozen j
      have hord := hd.ord
      have hmi : ((m + 1 : Nat) : Int) - 1 = m := by omega
      rw [hmi]
      go_upto_region 45 with fail
      go_cut [32] from 179 to 250 (fun v wx => v = .int .i64 j ∧ DS n D P (bwV l1 F1) (clV l2 F2) LB sb bb cb hb tb wx { s' with S := upd s'.S j 2 } ∧ wx.ownsRow (tb + 1) 3 1 (.slice (some ⟨g', 0, none⟩) L cap) L (ints c) ∧ Below sb w6 wx)
      case first =>
        go_wp2_with fail
        go_meet
        case rel => exact ⟨rfl, hd.setT hjn 2, ownsRow_setCell_below ho (by show tb < tb + 1; omega) _, hbl.setCell (by show sb ≤ tb; omega) _⟩
      case rest =>
        rename World => wx
        obtain ⟨rfl, hdx, hox, hbx⟩ := hcut
        clear hd ho hbl hcs hfs hcell hCh
        have hpx : wx.cell? ⟨b0, o0 + j, none⟩ = some (.int .i64 p) := (hbx.cell (p := ⟨b0, o0 + j, none⟩) hb0).trans hp0
        have hnBx := hnB.below (conv _ hbx)
        have hnCx := hnC.below (conv _ hbx)
        have hb2 : wx.cell? ⟨bb, p, none⟩ = some (.float .f64 (bwL (bwV l1 F1) l)) := by rw [← hf2]; exact hdx.bw.cell hpn
        have hc2 : wx.cell? ⟨cb, p, none⟩ = some (.int .i64 (clL (clV l2 F2) l)) := by rw [← hf3]; exact hdx.cl.cell hpn
        go_upto_if 204 with (first | (go_at_call 14; refine (bwAt_any a1 l1 c1 F1 j _ hnBx hl1 (by omega)).mono ?_; rintro e w' ⟨rfl, rfl⟩) | (go_at_call 16; refine (clsAt_any a2 l2 c2 F2 j _ hnCx hl2 (by omega)).mono ?_; rintro e w' ⟨rfl, rfl⟩))
        go_cut [34, 35] from 179 to 250 (fun v34 v35 wy => v34 = .float .f64 (bwL (bwV l1 F1) (j :: l)) ∧ v35 = .int .i64 (clL (clV l2 F2) (j :: l)) ∧ wy = wx)
        case first =>
          by_cases hpD : p = D
          · have hl0 : l = [] := by rw [hpD] at hch; exact hch.atDest
            have hq : ((p : Int) != (D : Int)) = false := by simp [hpD]
            subst hl0
            clear hpD
            go_wp2_with fail
            go_meet
            case rel => exact ⟨rfl, rfl, rfl⟩
          · have hl0 : l ≠ [] := by rintro rfl; exact hpD hch
            have hq : ((p : Int) != (D : Int)) = true := by simp; omega
            go_wp2_with (first | (go_at_call 11; refine (minF_any _ _ _).mono ?_; rintro e w' ⟨rfl, rfl⟩) | (go_at_call 17; refine (maxI_any _ _ _).mono ?_; rintro e w' ⟨rfl, rfl⟩))
            go_meet
            case rel => exact ⟨by rw [bwL_more _ _ _ hl0], by rw [clL_more _ _ _ hl0], rfl⟩
        case rest =>
          rename World => wy
          obtain ⟨rfl, rfl, rfl⟩ := hcut
          clear hb2 hc2 hnBx hnCx hpx
          obtain ⟨bv, hbv⟩ : ∃ x, x = bwL (bwV l1 F1) (j :: l) := ⟨_, rfl⟩
          obtain ⟨cv, hcv⟩ : ∃ x, x = clL (clV l2 F2) (j :: l) := ⟨_, rfl⟩
          simp only [← hbv, ← hcv]
          have HB : Hid (bv = bwL (bwV l1 F1) (j :: l)) := hbv
          have HCv : Hid (cv = clL (clV l2 F2) (j :: l)) := hcv
          clear hbv hcv
          have hcb1 := hdx.bw.cell hjn
          have hfb1 := hdx.bw.frozen j
          go_upto_region 53 with fail
          go_cut [34] from 179 to 250 (fun v wz => v = .float .f64 bv ∧ DS n D P (bwV l1 F1) (clV l2 F2) LB sb bb cb hb tb wz { s' with S := upd s'.S j 2, f2 := upd s'.f2 j bv } ∧ wz.ownsRow (tb + 1) 3 1 (.slice (some ⟨g', 0, none⟩) L cap) L (ints c) ∧ Below sb w6 wz)
          case first =>
            go_wp2_with fail
            go_meet
            case rel => exact ⟨rfl, hdx.setB hjn hGj bv, ownsRow_setCell_below hox (by show bb < tb + 1; omega) _, hbx.setCell (by show sb ≤ bb; omega) _⟩
          case rest =>
            rename World => wz
            obtain ⟨rfl, hdz, hoz, hbz⟩ := hcut
            clear hcb1 hfb1 hdx hox hbx
            have hcb1 := hdz.cl.cell hjn
            have hfb1 := hdz.cl.frozen j
            go_upto_region 54 with fail
            go_cut [35] from 179 to 250 (fun v wz => v = .int .i64 cv ∧ DS n D P (bwV l1 F1) (clV l2 F2) LB sb bb cb hb tb wz { s' with S := upd s'.S j 2, f2 := upd s'.f2 j bv, f3 := upd s'.f3 j cv } ∧ wz.ownsRow (tb + 1) 3 1 (.slice (some ⟨g', 0, none⟩) L cap) L (ints c) ∧ Below sb w6 wz)
            case first =>
              go_wp2_with fail
              go_meet
              case rel => exact ⟨rfl, hdz.setC hjn hGj cv, ownsRow_setCell_below hoz (by show cb < tb + 1; omega) _, hbz.setCell (by show sb ≤ cb; omega) _⟩
            case rest =>
              rename World => wa
              obtain ⟨rfl, hda, hoa, hba⟩ := hcut
              clear hcb1 hfb1 hdz hoz hbz
              have hlen := hch.length_le hpn
              have hcb1 := hda.hp.cell hjn
              have hfb1 := hda.hp.frozen j
              have hcp1 : wa.cell? ⟨hb, p, none⟩ = some (.int .i64 (l.length : Int)) := by rw [← hf4]; exact hda.hp.cell hpn
              obtain ⟨hl, hhl⟩ : ∃ x, x = l.length := ⟨_, rfl⟩
              rw [← hhl] at hcp1 hlen
              have HLL : Hid (l.length = hl) := hhl.symm
              clear hhl
              go_upto_region 55 with fail
              go_cut [33] from 179 to 250 (fun v wz => v = .int .i64 p ∧ DS n D P (bwV l1 F1) (clV l2 F2) LB sb bb cb hb tb wz { s' with S := upd s'.S j 2, f2 := upd s'.f2 j bv, f3 := upd s'.f3 j cv, f4 := upd s'.f4 j ((hl : Int) + 1) } ∧ wz.ownsRow (tb + 1) 3 1 (.slice (some ⟨g', 0, none⟩) L cap) L (ints c) ∧ Below sb w6 wz)
              case first =>
                go_wp2_with fail
                go_meet
                case rel => exact ⟨rfl, hda.setH hjn hGj _, ownsRow_setCell_below hoa (by show hb < tb + 1; omega) _, hba.setCell (by show sb ≤ hb; omega) _⟩
              case rest =>
                rename World => wb
                obtain ⟨rfl, hdb, hob, hbb⟩ := hcut
                clear hcb1 hfb1 hcp1 hda hoa hba
                go_upto_region 56 with fail
                have hS1 : wb.cell? ⟨lb, j, none⟩ = some (np (LB j)) := (hbb.cell (p := ⟨lb, j, none⟩) hlb).trans hlk0
                have hS2 : wb.cell? ⟨sb, p, none⟩ = some (np gq) := hdb.st.cell' hpn (by show gp (s'.G p) = np gq; rw [hGp]; rfl)
                have hS3 : wb.cell? ⟨hb, j, none⟩ = some (.int .i64 ((hl : Int) + 1)) := hdb.hp.cell' hjn (by show Value.int .i64 (upd s'.f4 j ((hl : Int) + 1) j) = _; rw [upd_same])
                have hcS := fun o => (hdb.st.alloc o).cell' hjn (v := .pointer none) (by show gp (s'.G j) = _; rw [hGj]; rfl)
                have hfS := fun o => (hdb.st.alloc o).frozen j
                have hn1 : (⟨sb, j, none⟩ : Addr) ≠ ⟨lb, j, none⟩ := by intro e; have := congrArg Addr.block e; simp at this; omega
                have hn2 : (⟨sb, j, none⟩ : Addr) ≠ ⟨sb, p, none⟩ := by intro e; have := congrArg Addr.off e; simp at this; omega
                have hn3 : (⟨sb, j, none⟩ : Addr) ≠ ⟨hb, j, none⟩ := by intro e; have := congrArg Addr.block e; simp at this; omega
                have hsbw : sb ≤ wb.heap.size := Nat.le_of_lt hdb.st.lt
                obtain ⟨l', hch', hCh', _⟩ := hdb.good p gq hpn hGp
                have hll := hch'.uniq hch
                rw [hll] at hCh'
                have hnew : ∀ W, W = ((wb.alloc (.cells #[np (LB j), np gq, .float .f64 bv, .int .i64 cv, .int .i64 ((hl : Int) + 1)] 75)).setCell ⟨sb, j, none⟩ (np wb.heap.size)).drew →
                    ∃ s2, DS n D P (bwV l1 F1) (clV l2 F2) LB sb bb cb hb tb W s2 ∧ Hid (Live n s c m s2) ∧ W.ownsRow (tb + 1) 3 1 (.slice (some ⟨g', 0, none⟩) L cap) L (ints c) ∧ Below sb w6 W := by
                  rintro W rfl
                  have hsbn : SB (wb.alloc (.cells #[np (LB j), np gq, .float .f64 bv, .int .i64 cv, .int .i64 ((hl : Int) + 1)] 75)) wb.heap.size #[np (LB j), np gq, .float .f64 bv, .int .i64 cv, .int .i64 ((hl : Int) + 1)] := heap_alloc_new wb _
                  have hCn : Ch (wb.alloc (.cells #[np (LB j), np gq, .float .f64 bv, .int .i64 cv, .int .i64 ((hl : Int) + 1)] 75)) (bwV l1 F1) (clV l2 F2) LB (j :: l) wb.heap.size := by
                    refine ⟨gq, ?_, hCh'.keep (K75.alloc _ _)⟩
                    rw [← HB.out, ← HCv.out, HLL.out]
                    exact hsbn
                  have hdn := (hdb.alloc (.cells #[np (LB j), np gq, .float .f64 bv, .int .i64 cv, .int .i64 ((hl : Int) + 1)] 75)).setG hjn hch2 hCn (by show upd s'.f2 j bv j = _; rw [upd_same]; exact HB.out) (by show upd s'.f3 j cv j = _; rw [upd_same]; exact HCv.out) (by show upd s'.f4 j ((hl : Int) + 1) j = _; rw [upd_same, List.length_cons, HLL.out]; simp)
                  exact ⟨_, hdn.drew, HS.out _ wb.heap.size rfl rfl, ownsRow_setCell_below (hob.alloc _) (by show sb < tb + 1; omega) _, ((hbb.alloc hsbw _).setCell (Nat.le_refl _) _).drew⟩
                clear hdb hob hbb hch' hCh' hll
                go_region_held3 (fun W => W.cell? ⟨lb, j, none⟩ = some (np (LB j)) ∧ W.cell? ⟨sb, p, none⟩ = some (np gq) ∧ W.cell? ⟨hb, j, none⟩ = some (.int .i64 ((hl : Int) + 1)))
                  (first | (exact ⟨hS1, hS2, hS3⟩) | (exact ⟨cell_alloc hS1 _, cell_alloc hS2 _, cell_alloc hS3 _⟩) | (exact ⟨(World.cell?_setCell_other _ _ _ _ hn1).trans (cell_alloc hS1 _), (World.cell?_setCell_other _ _ _ _ hn2).trans (cell_alloc hS2 _), (World.cell?_setCell_other _ _ _ _ hn3).trans (cell_alloc hS3 _)⟩))
                  (first | (go_at_call 15; refine (newStep_any (np (LB j)) (np gq) bv cv ((hl : Int) + 1) _ (by rfl) (by rfl) (some ⟨LB j, 0, none⟩) (some ⟨gq, 0, none⟩) rfl rfl).mono ?_; rintro e w' ⟨rfl, rfl⟩))
                go_wp2_with fail
                go_roundw
                case rel =>
                  obtain ⟨s2, q1, q2, q3, q4⟩ := hnew _ rfl
                  exact ⟨m, s2, by omega, rfl, q1, q2, q3, q4⟩
                case measure => simp [intOf]
end Go.Proofs.Qxb6613771a
