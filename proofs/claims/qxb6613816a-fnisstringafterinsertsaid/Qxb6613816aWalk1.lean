/-
  The walk of 'FnIsStringAfterInsert'.
-/
import Derived.Test.Qxb6613816aParts
import Derived.Laws.CopyOwn
import Derived.Deep.DeepCutAuto
import Derived.Deep.RegionHeld3
import Derived.Deep.DrawnRows
import Derived.Deep.Light
namespace Go.Proofs.Qxb6613816a
open Go.ChangeShapes Go.WideShapes Go.ChangeAt Go.RowKit
set_option linter.unusedVariables false

def IsRow (k : IntKind) (w : World) (a : Option Addr) (len cap : Nat) (zs : List Int) : Prop :=
  (a = none ∧ len = 0 ∧ cap = 0 ∧ zs = []) ∨
  ∃ x, a = some x ∧ len ≤ cap ∧ cap ≤ maxLen ∧ zs.length = cap ∧ (∀ i, i < zs.length → w.cell? (x.add i) = some (.int k (zs.getD i 0))) ∧ ∀ n ∈ zs, (Lit.int k n).wf = true

theorem Try.info3 : (Try.prog.info? 3).map (fun i => (i.zero, i.size, i.bytes)) = some (some (.int .i64 0), 1, 8) := by kernel_rfl
theorem Try.size3 : (Try.prog.info? 3).map (·.size) = some 1 := by kernel_rfl
theorem Try.info31 : (Try.prog.info? 31).map (fun i => (i.zero, i.size, i.bytes)) = some (some (.agg #[.int .i64 0, .string ByteArray.empty]), 2, 24) := by kernel_rfl

/-- The row that 'make' has laid, as a block. -/
theorem block_of_owns {w : World} {base e size n g : Nat} {xs : List Value} (h : w.ownsRow base e size (.slice (some ⟨g, 0, none⟩) n n) n xs) : w.heap[g]? = some (.cells xs.toArray e (0, 0)) := by
  obtain ⟨hl, ⟨h, _⟩ | ⟨g', cap, cur, hv, hb, hh, hn, hc, hs, ht⟩⟩ := h
  · simp at h
  · simp only [Value.slice.injEq, Option.some.injEq, Addr.mk.injEq] at hv
    obtain ⟨⟨rfl, _⟩, _, rfl⟩ := hv
    rw [hh, ← ht, List.take_of_length_le (by simp; omega)]

/-- The numbers of a slice that came in lie where they lay, in every world behind. -/
theorem row_cells {w w3 : World} {x : Addr} {k : IntKind} {z1 : List Int} {n : Nat} (hc : ∀ i, i < z1.length → w.cell? (x.add i) = some (.int k (z1.getD i 0))) (hb : Below w.heap.size w w3) :
    ∀ j v, ((z1.take n).map (Value.int k))[j]? = some v → w3.cell? (x.add j) = some v := by
  intro j v hj
  rw [List.getElem?_map] at hj
  obtain ⟨u, hu, rfl⟩ := Option.map_eq_some_iff.1 hj
  have hz : z1[j]? = some u := by
    rw [List.getElem?_take] at hu
    split at hu
    · exact hu
    · cases hu
  have hlt : j < z1.length := (List.getElem?_eq_some_iff.1 hz).1
  have h := hc j hlt
  rw [hb.cell (World.block_lt_of_cell? w _ h), h]
  simp [hz]

set_option maxRecDepth 100000 in
set_option maxHeartbeats 4000000 in
theorem walk (a0 : Option Addr) (len0 cap0 : Nat) (K : Nat → Int) (T : Nat → ByteArray) (a1 : Option Addr) (len1 cap1 : Nat) (z1 : List Int) (p tk : Int) (tt : ByteArray) (w : World)
    (h0 : Toks w a0 len0 K T) (hl : len0 ≤ maxLen) (h1 : IsRow .i64 w a1 len1 cap1 z1) (hl1 : len1 ≤ maxLen) :
    Calls Try.prog 3 #[.slice a0 len0 cap0, .slice a1 len1 cap1, .int .i64 p, .agg #[.int .i64 tk, .string tt]] w fun e w' => e = .returned (.bool true) ∧ Below w.heap.size w w' := by
  unfold maxLen at hl hl1
  have hw1 : Below w.heap.size w (w.alloc (.cells #[.int .i64 tk, .string tt] 25)) := (Below.refl _ _).alloc (Nat.le_refl _) _
  have h0' := h0.below hw1
  go_enter Try.func3, Try.ntmps3
  go_wp2_with fail
  refine (bytes_any a0 len0 cap0 K T a1 len1 cap1 p tk tt _ h0' hl).mono ?_
  rintro e w2 ⟨⟨b, rfl⟩, hb2⟩
  have hc0 : w2.cell? ⟨w.heap.size, 0, none⟩ = some (.int .i64 tk) := by
    rw [hb2.cell (p := ⟨w.heap.size, 0, none⟩) (by simp)]; simp
  have hc1 : w2.cell? ⟨w.heap.size, 1, none⟩ = some (.string tt) := by
    rw [hb2.cell (p := ⟨w.heap.size, 1, none⟩) (by simp)]; simp
  cases b
  · go_wp2
    go_ret
    exact ⟨rfl, hw1.trans (hb2.mono (by simp))⟩
  have hbw : Below w.heap.size w w2 := hw1.trans (hb2.mono (by simp))
  go_upto_if 37 with fail
  · go_ret; exact ⟨rfl, hbw⟩
  · go_ret; exact ⟨rfl, hbw⟩
  · go_ret; exact ⟨rfl, hbw⟩
  go_cut [1] (fun v wr => ∃ a1' cap1', v = .slice a1' len1 cap1' ∧ Below w2.heap.size w2 wr)
  case first =>
    rcases h1 with ⟨rfl, rfl, rfl, rfl⟩ | ⟨x, rfl, hlc, hcm, hz, hcell, hwf⟩
    · go_wp2
      go_meet
      case rel => exact ⟨_, _, rfl, Below.refl _ _⟩
    · obtain ⟨i3, hi, hz0, hz1, hz2⟩ := info_parts Try.info3
      have hby : i3.bytes * len1 ≤ 281474976710656 := by rw [hz2]; omega
      have hml : len1 ≤ maxLen := by unfold maxLen; omega
      have hsrc : ∀ w3 : World, Below w2.heap.size w2 w3 → 0 < ((z1.take len1).map (Value.int .i64)).length → some (⟨w2.heap.size, 0, none⟩ : Addr) = some ⟨w2.heap.size, 0, none⟩ ∧ ∃ ad, some x = some ad ∧ ∀ j v, ((z1.take len1).map (Value.int .i64))[j]? = some v → w3.cell? (ad.add j) = some v :=
        fun w3 hb3 _ => ⟨rfl, x, rfl, row_cells hcell (hbw.trans (hb3.mono hbw.size))⟩
      have hlen : ((z1.take len1).map (Value.int .i64)).length = Nat.min len1 len1 := by simp; omega
      have hone : ∀ v ∈ (z1.take len1).map (Value.int .i64), v.oneCell' = true := ints_oneCell _ _
      go_wp2_with (first | (at_make; refine wpList_make_full _ (by rfl) (.tmp 39) (.tmp 39) 23 (by rfl) w2.heap.size 3 i3 (.int .i64 0) 1 Try.underlying23 hi hz0 hz1 .i64 .i64 len1 len1 len1 (by rfl) (by rfl) rfl rfl hby hml (Nat.le_refl _) ?_; intro w3 hown3 hgr3; have hbk3 := block_of_owns hown3; have hb3 := (Below.refl w2.heap.size w2).grown hgr3 (Nat.le_refl _) (fun _ h => by cases h)) | (refine wpList_copy_splice (by rfl) (.tmp 41) (.tmp 42) 23 23 (by rfl) 3 Try.underlying23 Try.size3 _ _ _ _ _ _ (by rfl) (by rfl) w2.heap.size 0 _ 3 hbk3 _ hlen (hsrc _ hb3) ?hfit hone w2.heap.size w2 hb3 (Nat.le_refl _) ?_; rotate_right; intro w4 hg4 hb4))
      · go_meet
        case rel => exact ⟨_, _, rfl, hb4⟩
      · simp [madeCells]
  case rest =>
    rename World => wB
    obtain ⟨a1', cap1', rfl, hbc⟩ := hcut
    have hbwc : Below w.heap.size w wB := hbw.trans (hbc.mono hbw.size)
    have hc0 : wB.cell? ⟨w.heap.size, 0, none⟩ = some (.int .i64 tk) := (hbc.cell (p := ⟨w.heap.size, 0, none⟩) (World.block_lt_of_cell? w2 _ hc0)).trans hc0
    have hc1 : wB.cell? ⟨w.heap.size, 1, none⟩ = some (.string tt) := (hbc.cell (p := ⟨w.heap.size, 1, none⟩) (World.block_lt_of_cell? w2 _ hc1)).trans hc1
    go_wp2
    · go_ret; exact ⟨rfl, hbwc⟩
    have h0c := h0.below hbwc
    go_loop [10, 11] (fun z i => ∃ (k : Nat) (n : Int), k ≤ len0 ∧ i = .int .i64 k ∧ z = .int .i64 n) (fun _ i => len0 - (intOf i).toNat)
    case atStart => exact ⟨0, _, Nat.zero_le _, rfl, rfl⟩
    case round =>
      obtain ⟨k, n, hk, rfl, rfl⟩ := hrel
      by_cases hlt : k < len0
      · obtain ⟨b, off, rfl, hb, hc⟩ := h0c (by omega)
        have hd0 := (hc k hlt).1
        have hd1 := (hc k hlt).2
        clear hc
        go_wp2
        · go_ret; exact ⟨rfl, hbwc⟩
        go_round
        case rel => exact ⟨k + 1, _, by omega, by go_num, rfl⟩
        case measure => simp [intOf]; omega
      by_cases hp0 : p < 0
      · go_wp2
        go_ret; exact ⟨rfl, hbwc⟩
      by_cases hp1 : (len0 : Int) < p
      · go_wp2
        go_ret; exact ⟨rfl, hbwc⟩
      by_cases ht0 : tk < 0
      · go_wp2
        go_ret; exact ⟨rfl, hbwc⟩
      by_cases ht1 : 4 < tk
      · go_wp2
        go_ret; exact ⟨rfl, hbwc⟩
      obtain ⟨P, rfl⟩ : ∃ P : Nat, p = P := ⟨p.toNat, by omega⟩
      go_wp2
      go_loop [12] (fun i => ∃ k : Nat, k ≤ len0 ∧ i = .int .i64 k) (fun i => len0 - (intOf i).toNat)
      case atStart => exact ⟨0, Nat.zero_le _, rfl⟩
      case round =>
        obtain ⟨k2, hk2, rfl⟩ := hrel
        by_cases hlt2 : k2 < len0
        · obtain ⟨b, off, rfl, hb, hc⟩ := h0c (by omega)
          have hd0 := (hc k2 hlt2).1
          have hd1 := (hc k2 hlt2).2
          clear hc
          by_cases hq0 : K k2 < 0
          · go_wp2
            go_ret; exact ⟨rfl, hbwc⟩
          by_cases hq1 : 4 < K k2
          · go_wp2
            go_ret; exact ⟨rfl, hbwc⟩
          go_wp2
          go_round
          case rel => exact ⟨k2 + 1, by omega, by go_num⟩
          case measure => simp [intOf]; omega
        go_wp2_with (first | (go_at_call 6; refine (noToks_any _).mono ?_; rintro e w' ⟨rfl, rfl⟩))
        go_loopw [13, 14, 15] (fun vb va i wr => ∃ k : Nat, k ≤ len0 ∧ i = .int .i64 k ∧ wr.ownsRow wB.heap.size 31 2 vb k (tokCells k K T) ∧
            wr.ownsRow wB.heap.size 31 2 va (aLen P k) (tokCells (aLen P k) (insK P tk K) (insT P tt T)) ∧ apart vb va ∧ Below wB.heap.size wB wr) (fun _ _ i _ => len0 - (intOf i).toNat)
        case atStart =>
          refine ⟨0, Nat.zero_le _, rfl, World.ownsRow_nil _ _ _ _, ?_, ?_, Below.refl _ _⟩
          · simp [aLen, tokCells_zero]; exact World.ownsRow_nil _ _ _ _
          · intro g hg; simp [Value.ownBlock] at hg
        case round =>
          obtain ⟨k3, hk3, rfl, hob, hoa, hap, hbr⟩ := hrel
          by_cases hlt3 : k3 < len0
          · have hbwr : Below w.heap.size w wr := hbwc.trans (hbr.mono hbwc.size)
            have hc0r : wr.cell? ⟨w.heap.size, 0, none⟩ = some (.int .i64 tk) := (hbr.cell (p := ⟨w.heap.size, 0, none⟩) (World.block_lt_of_cell? wB _ hc0)).trans hc0
            have hc1r : wr.cell? ⟨w.heap.size, 1, none⟩ = some (.string tt) := (hbr.cell (p := ⟨w.heap.size, 1, none⟩) (World.block_lt_of_cell? wB _ hc1)).trans hc1
            obtain ⟨i31, gi, gz0, gz1, gz2⟩ := info_parts Try.info31
            go_upto_if 121 with fail
            go_cut [14] (fun va' wx => wx.ownsRow wB.heap.size 31 2 u13 k3 (tokCells k3 K T) ∧ wx.ownsRow wB.heap.size 31 2 va' (mLen P k3) (tokCells (mLen P k3) (insK P tk K) (insT P tt T)) ∧ apart u13 va' ∧ Below wB.heap.size wB wx)
            case first =>
              by_cases hkp : k3 = P
              · have hkp' : ((k3 : Int) == (P : Int)) = true := by simp [hkp]
                have ha : aLen P k3 = k3 := by simp [aLen, hkp]
                have HKP : Hid (k3 = P) := hkp
                rw [ha] at hoa
                clear hkp ha
                have hm : k3 + 1 ≤ maxLen := by unfold maxLen; omega
                have hby : (k3 + 1) * 24 ≤ 140737488355328 := by omega
                have hlr := (hoa.alloc (.cells #[.int .i64 tk, .string tt] 31)).alloc (.cells #[.int .i64 tk, .string tt] 31)
                have hlb := (hob.alloc (.cells #[.int .i64 tk, .string tt] 31)).alloc (.cells #[.int .i64 tk, .string tt] 31)
                have hbs : wB.heap.size ≤ wr.heap.size := hbr.size
                have hbase : wB.heap.size ≤ ((wr.alloc (.cells #[.int .i64 tk, .string tt] 31)).alloc (.cells #[.int .i64 tk, .string tt] 31)).heap.size := by simp; omega
                have hbb := (hbr.alloc hbs (.cells #[.int .i64 tk, .string tt] 31)).alloc (by simp; omega) (.cells #[.int .i64 tk, .string tt] 31)
                have hsz : ((wr.alloc (.cells #[.int .i64 tk, .string tt] 31)).alloc (.cells #[.int .i64 tk, .string tt] 31)).heap.size = wr.heap.size + 2 := by simp
                have HSZ : Hid (((wr.alloc (.cells #[.int .i64 tk, .string tt] 31)).alloc (.cells #[.int .i64 tk, .string tt] 31)).heap.size = wr.heap.size + 2) := hsz
                clear hsz
                go_wp2_with (first | (go_at_call 7; refine (makeTok_any _ _ _).mono ?_; rintro e w' ⟨rfl, rfl⟩) | (at_builtin; refine wpList_append_lies _ (by rfl) (.tmp 122) (.tmp 128) 27 (by rfl) wB.heap.size 31 i31 (.agg #[.int .i64 0, .string ByteArray.empty]) 2 24 Try.underlying27 gi gz0 gz1 gz2 (by rfl) (by omega) u14 k3 _ (by rfl) hlr ⟨wr.heap.size + 1, 0, none⟩ 1 1 [.int .i64 tk, .string tt] (by rfl) (by rfl) (news2 _ _ _ _ _) (tok_one _ _) (by omega) hm hby hbase (wr.heap.size + 2) HSZ.out ?_; intro g cap w1 hown1 hgr1 hat1 hlt1))
                go_meet
                case rel =>
                  rw [tokCells_put HKP.out] at hown1
                  rw [mLen_at HKP.out]
                  have hs := push_step hlr hlb hap.symm hgr1 hat1 HSZ.out (k3 + 1) cap
                  exact ⟨hs.1, hown1, hs.2.symm, below_push hlr hgr1 hbb hbase (Nat.le_refl _)⟩
              · have hkp' : ((k3 : Int) == (P : Int)) = false := by simp; omega
                have hme := mLen_ne hkp
                clear hkp
                go_wp2
                go_meet
                case rel => rw [hme]; exact ⟨hob, hoa, hap, hbr⟩
            case rest =>
              obtain ⟨hobx, hoax, hapx, hbx⟩ := hcut
              rename World => wd
              clear hob hoa hap hbr hc0r hc1r hbwr
              obtain ⟨b, off, rfl, hb, hc⟩ := h0c (by omega)
              have hd0 : wd.cell? ⟨b, off + k3 * 2, none⟩ = some (.int .i64 (K k3)) := (hbx.cell (p := ⟨b, off + k3 * 2, none⟩) hb).trans (hc k3 hlt3).1
              have hd1 : wd.cell? ⟨b, off + k3 * 2 + 1, none⟩ = some (.string (T k3)) := (hbx.cell (p := ⟨b, off + k3 * 2 + 1, none⟩) hb).trans (hc k3 hlt3).2
              clear hc
              have hn0 := World.new_ne wd _ hd0
              go_upto_region 38 with fail
              go_cut [16] (fun v wx => ∃ g, v = .pointer (some ⟨g, 0, none⟩) ∧ wx.heap[g]? = some (.cells #[.int .i64 (K k3), .string (T k3)] 31 (0, 0)) ∧ wd.heap.size ≤ g ∧ wd.grownBy wx none)
              case first =>
                go_region_held3 (fun w' => w'.cell? ⟨b, off + k3 * 2, none⟩ = some (.int .i64 (K k3)) ∧ w'.cell? ⟨b, off + k3 * 2 + 1, none⟩ = some (.string (T k3))) (go_keep) (first | (go_at_call 7; refine (makeTok_any _ _ _).mono ?_; rintro e w' ⟨rfl, rfl⟩))
                all_goals go_wp2
                all_goals go_meet
                all_goals
                  have h2 := two_new wd #[.int .i64 (K k3), .string (T k3)] 31
                  first | exact ⟨wd.heap.size + 1, rfl, h2.2.1, by omega, h2.2.2⟩ | exact ⟨wd.heap.size, rfl, h2.1, by omega, h2.2.2⟩
              case rest =>
                rename World => we
                obtain ⟨g, rfl, hbox, hglo, hgre⟩ := hcut
                obtain ⟨hobe, hoae, hbe, he0, he1, hgv, hgu, hglt⟩ := boxed hobx hoax hbx hbx.size hgre hbox hglo
                clear hobx hoax hbx hd0 hd1 hbox hgre hn0
                have hm1 : k3 + 1 ≤ maxLen := by unfold maxLen; omega
                have hm2 : mLen P k3 + 1 ≤ maxLen := by have := mLen_le P k3; unfold maxLen; omega
                have hby1 : (k3 + 1) * 24 ≤ 140737488355328 := by omega
                have hby2 : (mLen P k3 + 1) * 24 ≤ 140737488355328 := by have := mLen_le P k3; omega
                have hbs : wB.heap.size ≤ we.heap.size := hbe.size
                have hl1 := hobe.alloc (.cells #[.int .i64 (K k3), .string (T k3)] 31)
                have hbase1 : wB.heap.size ≤ (we.alloc (.cells #[.int .i64 (K k3), .string (T k3)] 31)).heap.size := by simp; omega
                have HSZ1 : Hid ((we.alloc (.cells #[.int .i64 (K k3), .string (T k3)] 31)).heap.size = we.heap.size + 1) := (by simp : (we.alloc (.cells #[.int .i64 (K k3), .string (T k3)] 31)).heap.size = we.heap.size + 1)
                go_upto_region 40 with (first | (at_builtin; refine wpList_append_lies _ (by rfl) (.tmp 141) (.tmp 143) 27 (by rfl) wB.heap.size 31 i31 (.agg #[.int .i64 0, .string ByteArray.empty]) 2 24 Try.underlying27 gi gz0 gz1 gz2 (by rfl) (by omega) u13 k3 _ (by rfl) hl1 ⟨we.heap.size, 0, none⟩ 1 1 [.int .i64 (K k3), .string (T k3)] (by rfl) (by rfl) (news1 _ _ _ _) (tok_one _ _) (by omega) hm1 hby1 hbase1 (we.heap.size + 1) HSZ1.out ?_; intro g1 cap1 w1 hown1 hgr1 hat1 hlt1))
                have hp1 := pushed (.cells #[.int .i64 (K k3), .string (T k3)] 31) hobe hoae hapx hbe hbs hgr1 hat1 (k3 + 1) cap1
                have hf0 := box_kept (.cells #[.int .i64 (K k3), .string (T k3)] 31) he0 hgr1 hgv
                have hf1 := box_kept (.cells #[.int .i64 (K k3), .string (T k3)] 31) he1 hgr1 hgv
                obtain ⟨hoa1, hap1, hbe1⟩ := hp1
                rw [← tokCells_succ] at hown1
                clear hobe hoae hapx hgr1 hat1 he0 he1 hl1 hbase1 HSZ1 hbe hbs hlt1
                have hbs : wB.heap.size ≤ w1.heap.size := hbe1.size
                have hl2 := hoa1.alloc (.cells #[.int .i64 (K k3), .string (T k3)] 31)
                have hbase2 : wB.heap.size ≤ (w1.alloc (.cells #[.int .i64 (K k3), .string (T k3)] 31)).heap.size := by simp; omega
                have HSZ2 : Hid ((w1.alloc (.cells #[.int .i64 (K k3), .string (T k3)] 31)).heap.size = w1.heap.size + 1) := (by simp : (w1.alloc (.cells #[.int .i64 (K k3), .string (T k3)] 31)).heap.size = w1.heap.size + 1)
                go_wp2_with (first | (at_builtin; refine wpList_append_lies _ (by rfl) (.tmp 145) (.tmp 147) 27 (by rfl) wB.heap.size 31 i31 (.agg #[.int .i64 0, .string ByteArray.empty]) 2 24 Try.underlying27 gi gz0 gz1 gz2 (by rfl) (by omega) u14 (mLen P k3) _ (by rfl) hl2 ⟨w1.heap.size, 0, none⟩ 1 1 [.int .i64 (K k3), .string (T k3)] (by rfl) (by rfl) (news1 _ _ _ _) (tok_one _ _) (by omega) hm2 hby2 hbase2 (w1.heap.size + 1) HSZ2.out ?_; intro g2 cap2 w2' hown2 hgr2 hat2 hlt2))
                have hp2 := pushed (.cells #[.int .i64 (K k3), .string (T k3)] 31) hoa1 hown1 hap1.symm hbe1 hbs hgr2 hat2 (mLen P k3 + 1) cap2
                rw [tokCells_mid] at hown2
                go_roundw
                case rel =>
                  refine ⟨k3 + 1, by omega, by go_num, hp2.1, ?_, hp2.2.1.symm, hp2.2.2⟩
                  rw [aLen_succ]; exact hown2
                case measure => simp [intOf]; omega
          · obtain rfl : k3 = len0 := by omega
            have hc0r : wr.cell? ⟨w.heap.size, 0, none⟩ = some (.int .i64 tk) := (hbr.cell (p := ⟨w.heap.size, 0, none⟩) (World.block_lt_of_cell? wB _ hc0)).trans hc0
            have hc1r : wr.cell? ⟨w.heap.size, 1, none⟩ = some (.string tt) := (hbr.cell (p := ⟨w.heap.size, 1, none⟩) (World.block_lt_of_cell? wB _ hc1)).trans hc1
            obtain ⟨i31, gi, gz0, gz1, gz2⟩ := info_parts Try.info31
            go_upto_if 152 with fail
            go_cut [14] (fun va' wx => wx.ownsRow wB.heap.size 31 2 u13 k3 (tokCells k3 K T) ∧ wx.ownsRow wB.heap.size 31 2 va' (mLen P k3) (tokCells (mLen P k3) (insK P tk K) (insT P tt T)) ∧ Below wB.heap.size wB wx)
            case first =>
              by_cases hkp : k3 = P
              · have hkp' : ((P : Int) == (k3 : Int)) = true := by simp [hkp]
                have ha := aLen_at hkp
                have HKP : Hid (k3 = P) := hkp
                rw [ha] at hoa
                clear hkp ha
                have hm : k3 + 1 ≤ maxLen := by unfold maxLen; omega
                have hby : (k3 + 1) * 24 ≤ 140737488355328 := by omega
                have hlr := (hoa.alloc (.cells #[.int .i64 tk, .string tt] 31)).alloc (.cells #[.int .i64 tk, .string tt] 31)
                have hlb := (hob.alloc (.cells #[.int .i64 tk, .string tt] 31)).alloc (.cells #[.int .i64 tk, .string tt] 31)
                have hbs : wB.heap.size ≤ wr.heap.size := hbr.size
                have hbase : wB.heap.size ≤ ((wr.alloc (.cells #[.int .i64 tk, .string tt] 31)).alloc (.cells #[.int .i64 tk, .string tt] 31)).heap.size := by simp; omega
                have hbb := (hbr.alloc hbs (.cells #[.int .i64 tk, .string tt] 31)).alloc (by simp; omega) (.cells #[.int .i64 tk, .string tt] 31)
                have HSZ : Hid (((wr.alloc (.cells #[.int .i64 tk, .string tt] 31)).alloc (.cells #[.int .i64 tk, .string tt] 31)).heap.size = wr.heap.size + 2) := (by simp : ((wr.alloc (.cells #[.int .i64 tk, .string tt] 31)).alloc (.cells #[.int .i64 tk, .string tt] 31)).heap.size = wr.heap.size + 2)
                go_wp2_with (first | (go_at_call 7; refine (makeTok_any _ _ _).mono ?_; rintro e w' ⟨rfl, rfl⟩) | (at_builtin; refine wpList_append_lies _ (by rfl) (.tmp 153) (.tmp 159) 27 (by rfl) wB.heap.size 31 i31 (.agg #[.int .i64 0, .string ByteArray.empty]) 2 24 Try.underlying27 gi gz0 gz1 gz2 (by rfl) (by omega) u14 k3 _ (by rfl) hlr ⟨wr.heap.size + 1, 0, none⟩ 1 1 [.int .i64 tk, .string tt] (by rfl) (by rfl) (news2 _ _ _ _ _) (tok_one _ _) (by omega) hm hby hbase (wr.heap.size + 2) HSZ.out ?_; intro g cap w1 hown1 hgr1 hat1 hlt1))
                go_meet
                case rel =>
                  rw [tokCells_put HKP.out] at hown1
                  rw [mLen_at HKP.out]
                  have hs := push_step hlr hlb hap.symm hgr1 hat1 HSZ.out (k3 + 1) cap
                  exact ⟨hs.1, hown1, below_push hlr hgr1 hbb hbase (Nat.le_refl _)⟩
              · have hkp' : ((P : Int) == (k3 : Int)) = false := by simp; omega
                have hme := mLen_ne hkp
                clear hkp
                go_wp2
                go_meet
                case rel => rw [hme]; exact ⟨hob, hoa, hbr⟩
            case rest =>
              rename World => wd
              obtain ⟨hobx, hoax, hbx⟩ := hcut
              clear hob hoa hap hbr hc0r hc1r
              rw [mLen_end (by omega)] at hoax
              obtain ⟨aob, capb, rfl, hmb, hTb⟩ := toks_of_owns hobx
              obtain ⟨aoa, capa, rfl, hma, hTa⟩ := toks_of_owns hoax
              clear hobx hoax
              have hc0d : wd.cell? ⟨w.heap.size, 0, none⟩ = some (.int .i64 tk) := (hbx.cell (p := ⟨w.heap.size, 0, none⟩) (World.block_lt_of_cell? wB _ hc0)).trans hc0
              have hltd := World.block_lt_of_cell? wd _ hc0d
              have hbwd : Below w.heap.size w wd := hbwc.trans (hbx.mono hbwc.size)
              have hcP := fun wx (hT : Toks wx aoa (k3 + 1) (insK P tk K) (insT P tt T)) => isStr_put k3 P (by omega) tk K ▸ readerIsString_any aoa (k3 + 1) capa (insK P tk K) (insT P tt T) a1' len1 cap1' P wx hT hma
              go_upto_region 43 with fail
              have hTad : Toks wd.drew aoa (k3 + 1) (insK P tk K) (insT P tt T) := hTa.below (Below.refl _ _).drew
              go_cut [168] (fun v wx => v = .bool false ∧ Below wd.heap.size wd wx)
              case first =>
                go_region_held3 (fun w' => w'.cell? ⟨w.heap.size, 0, none⟩ = some (.int .i64 tk)) (first | go_keep | (exact (hb5.cell (p := ⟨w.heap.size, 0, none⟩) hltd).trans hc0d)) (first | (go_at_call 8; refine (hcP _ hTad).mono ?_; rintro e w5 ⟨rfl, hb5⟩))
                all_goals go_wp2
                all_goals go_meet
                all_goals exact ⟨by simp, (Below.refl wd.heap.size wd).drew.trans hb5⟩
              case rest =>
                rename World => we
                obtain ⟨rfl, hbe⟩ := hcut
                go_wp2
                have hTbe := hTb.below hbe
                have hTae := hTa.below hbe
                have hbwe : Below w.heap.size w we := hbwd.trans (hbe.mono hbwd.size)
                go_loopw [17] (fun j wr => ∃ m : Int, -1 ≤ m ∧ m ≤ k3 + 2 ∧ j = .int .i64 m ∧ Below we.heap.size we wr) (fun j _ => (k3 + 2 - intOf j).toNat)
                case atStart => exact ⟨-1, by omega, by omega, rfl, Below.refl _ _⟩
                case round =>
                  obtain ⟨m, hm0, hm1, rfl, hbr⟩ := hrel
                  by_cases hle : m ≤ k3 + 1
                  · have hTb1 := hTbe.below hbr
                    have hTa1 := hTae.below hbr
                    by_cases hmp : m < P
                    · have ca := fun wx (hT : Toks wx aoa (k3 + 1) (insK P tk K) (insT P tt T)) => isStr_before k3 P (by omega) tk K m hmp ▸ readerIsString_any aoa (k3 + 1) capa (insK P tk K) (insT P tt T) a1' len1 cap1' m wx hT hma
                      go_wp2_with fail
                      refine (readerIsString_any aob k3 capb K T a1' len1 cap1' m _ hTb1 hmb).mono ?_
                      rintro e w6 ⟨rfl, hb6⟩
                      go_wp2_with fail
                      refine (ca _ (hTa1.below hb6)).mono ?_
                      rintro e w7 ⟨rfl, hb7⟩
                      go_wp2_with fail
                      go_roundw
                      case rel => exact ⟨m + 1, by omega, by omega, by go_num, (hbr.trans (hb6.mono hbr.size)).trans (hb7.mono (Nat.le_trans hbr.size hb6.size))⟩
                      case measure => simp [intOf]; omega
                    · have ca := fun wx (hT : Toks wx aoa (k3 + 1) (insK P tk K) (insT P tt T)) => isStr_behind k3 P tk K m hmp ▸ readerIsString_any aoa (k3 + 1) capa (insK P tk K) (insT P tt T) a1' len1 cap1' (m + 1) wx hT hma
                      go_wp2_with fail
                      refine (readerIsString_any aob k3 capb K T a1' len1 cap1' m _ hTb1 hmb).mono ?_
                      rintro e w6 ⟨rfl, hb6⟩
                      go_wp2_with fail
                      refine (ca _ (hTa1.below hb6)).mono ?_
                      rintro e w7 ⟨rfl, hb7⟩
                      go_wp2_with fail
                      go_roundw
                      case rel => exact ⟨m + 1, by omega, by omega, by go_num, (hbr.trans (hb6.mono hbr.size)).trans (hb7.mono (Nat.le_trans hbr.size hb6.size))⟩
                      case measure => simp [intOf]; omega
                  · go_wp2
                    go_ret
                    exact ⟨rfl, hbwe.trans (hbr.mono hbwe.size)⟩
end Go.Proofs.Qxb6613816a
