/-
  buildPaths: the nodes and the links; what it leaves.
-/
import Derived.Test.Qxb6613771aLoop3
import Derived.Carry
namespace Go.Proofs.Qxb6613771a
open Go.RowKit
set_option linter.unusedVariables false

theorem Try.info30 : (Try.prog.info? 30).map (fun i => (i.zero, i.size, i.bytes)) = some (some (.pointer none), 1, 8) := by kernel_rfl
theorem Try.info35 : (Try.prog.info? 35).map (fun i => (i.zero, i.size, i.bytes)) = some (some (.pointer none), 1, 8) := by kernel_rfl
theorem Try.info34 : (Try.prog.info? 34).map (fun i => (i.zero, i.size, i.bytes)) = some (some (.float .f64 0), 1, 8) := by kernel_rfl

def idx (K : Nat) (m : Nat) : List (Nat × Value) := (List.range m).map fun i => (K + i, Value.int .i64 i)
theorem idx_succ (K m : Nat) : idx K m ++ [(K + m, Value.int .i64 m)] = idx K (m + 1) := by simp [idx, List.range_succ]
theorem idx_mem {K m : Nat} {p : Nat × Value} (h : p ∈ idx K m) : ∃ i, i < m ∧ p = (K + i, Value.int .i64 i) := by
  simp only [idx, List.mem_map, List.mem_range] at h
  obtain ⟨i, hi, rfl⟩ := h
  exact ⟨i, hi, rfl⟩

theorem PMap.heap {w w' : World} {r : Nat} {kv : List (Nat × Value)} (h : PMap w r kv) (e : w'.heap[r]? = w.heap[r]?) : PMap w' r kv := by
  obtain ⟨es, c, h, h2⟩ := h
  exact ⟨es, c, e.trans h, h2⟩
theorem PMap.set {w : World} {r : Nat} {kv : List (Nat × Value)} (h : PMap w r kv) {a : Addr} (hne : r ≠ a.block) (v : Value) : PMap (w.setCell a v) r kv := h.heap (heap_setCell_other w a r v hne)
theorem PMap.grown {w w' : World} {r : Nat} {o : Option Nat} {kv : List (Nat × Value)} (h : PMap w r kv) (hg : w.grownBy w' o) (hne : some r ≠ o) : PMap w' r kv := h.heap (hg.block r h.lt hne)
theorem Blk.heap {w w' : World} {b : Nat} (h : Blk w b) (e : w'.heap[b]? = w.heap[b]?) : Blk w' b := by
  obtain ⟨c, t, h⟩ := h
  exact ⟨c, t, e.trans h⟩
theorem Blk.set {w : World} {b : Nat} (h : Blk w b) {a : Addr} (hne : b ≠ a.block) (v : Value) : Blk (w.setCell a v) b := h.heap (heap_setCell_other w a b v hne)
theorem Blk.grown {w w' : World} {b : Nat} {o : Option Nat} (h : Blk w b) (hg : w.grownBy w' o) (hne : some b ≠ o) : Blk w' b := h.heap (hg.block b h.lt hne)
theorem Blk.ne {w : World} {b r : Nat} {kv : List (Nat × Value)} (h : Blk w b) (hm : PMap w r kv) : b ≠ r := by
  rintro rfl
  obtain ⟨c, t, h⟩ := h
  obtain ⟨es, k, h', _⟩ := hm
  rw [h] at h'
  cases h'
theorem Blk.new (w : World) (c : Array Value) (t : TypeId) : Blk (w.alloc (.cells c t)) w.heap.size := ⟨c, t, heap_alloc_new w _⟩

theorem wpList_put30 {ops : Array Oper} {rest : List Oper} {o : Oper} {a : Act} {Q : Exit → Act → World → Prop} (w : World) (hg : o.guard = none) (m x y : Operand) (t : TypeId) (hop : o.op = Op.mapUpdate t m x y)
    (e : TypeId) (hu : Try.prog.underlying t = some (.map 30 e)) (r b : Nat) (kv : List (Nat × Value)) (v : Value) (hm : a.eval m = .map (some r)) (hx : a.eval x = np b) (hy : a.eval y = v)
    (h : PMap w r kv) (hb : Blk w b) (hk : ∀ p ∈ kv, Blk w p.1 ∧ p.1 ≠ b)
    (hK : ∀ w', PMap w' r (kv ++ [(b, v)]) → w.grownBy w' (some r) → w'.heap.size = w.heap.size → wpList Try.prog ops Q rest (a.put o.dst undef) w') : wpList Try.prog ops Q (o :: rest) a w := by
  refine wpList_plain hg fun K' hK' => ?_
  obtain ⟨w', hrun, h1, h2, h3⟩ := put_new t e v hu h hb hk
  unfold Oper.wp
  simp [execOp, hop, hm, hx, hy, hrun, Result.andThen]
  exact hK' _ _ (hK w' h1 h2 h3)

/-- The nodes, the map of their indices, and the node that is none of them. -/
structure NodesOk (n nb r : Nat) (w : World) : Prop where
  row : Row w nb 30 (fun j => np (r + 1 + j)) n
  map : PMap w r (idx (r + 1) n)
  blk : ∀ j, j ≤ n → Blk w (r + 1 + j)
  lt : nb < r ∧ r + 1 + n < w.heap.size
theorem NodesOk.below {n nb r : Nat} {w w' : World} (h : NodesOk n nb r w) (hb : Below w.heap.size w w') : NodesOk n nb r w' :=
  ⟨h.row.below hb h.row.lt, h.map.below hb h.map.lt, fun j hj => (h.blk j hj).below hb (h.blk j hj).lt, h.lt.1, Nat.lt_of_lt_of_le h.lt.2 hb.size⟩

abbrev pci : ByteArray := { data := #[80, 67, 73] }
def linked (n : Nat) (P : Nat → Int) (d : Int) (j : Nat) : Prop := (j : Int) ≠ d ∧ 0 ≤ P j ∧ P j < n
instance (n : Nat) (P : Nat → Int) (d : Int) (j : Nat) : Decidable (linked n P d j) := by unfold linked; infer_instance
/-- The links of the first i nodes. -/
structure LinksOk (n : Nat) (P : Nat → Int) (d : Int) (B : Nat → Nat) (r lb : Nat) (LB : Nat → Nat) (i : Nat) (w : World) : Prop where
  row : Row w lb 44 (fun j => if j < i ∧ linked n P d j then np (LB j) else .pointer none) n
  lks : ∀ j, j < i → linked n P d j → lb < LB j ∧ w.heap[LB j]? = some (.cells #[np (r + 1 + j), np (r + 1 + (P j).toNat), .string pci, .float .f64 (B j), .int .u64 0] 48 (0, 0))
theorem LinksOk.below {n : Nat} {P : Nat → Int} {d : Int} {B : Nat → Nat} {r lb : Nat} {LB : Nat → Nat} {i : Nat} {w w' : World} (h : LinksOk n P d B r lb LB i w) (hb : Below w.heap.size w w') : LinksOk n P d B r lb LB i w' :=
  ⟨h.row.below hb h.row.lt, fun j hj hl => ⟨(h.lks j hj hl).1, (hb.block _ (Array.getElem?_eq_some_iff.1 (h.lks j hj hl).2).1).trans (h.lks j hj hl).2⟩⟩

theorem SB.new (w : World) (a : Addr) (v : Value) (c : Array Value) : SB ((w.setCell a v).alloc (.cells c 75)) w.heap.size c := by
  have := heap_alloc_new (w.setCell a v) (.cells c 75)
  rwa [World.size_setCell] at this

/-- The five rows, before the search. -/
structure R5 (n sb bb cb hb tb : Nat) (w : World) (g0 g1 g2 g3 g4 : Nat → Value) : Prop where
  ord : sb < bb ∧ bb < cb ∧ cb < hb ∧ hb < tb
  st : Row w sb 35 g0 n
  bw : Row w bb 34 g1 n
  cl : Row w cb 3 g2 n
  hp : Row w hb 3 g3 n
  sta : Row w tb 3 g4 n
section
variable {n sb bb cb hb tb : Nat} {w w' : World} {g0 g1 g2 g3 g4 : Nat → Value}
theorem R5.below (h : R5 n sb bb cb hb tb w g0 g1 g2 g3 g4) (hb' : Below w.heap.size w w') : R5 n sb bb cb hb tb w' g0 g1 g2 g3 g4 :=
  ⟨h.ord, h.st.below hb' h.st.lt, h.bw.below hb' h.bw.lt, h.cl.below hb' h.cl.lt, h.hp.below hb' h.hp.lt, h.sta.below hb' h.sta.lt⟩
theorem R5.set0 (h : R5 n sb bb cb hb tb w g0 g1 g2 g3 g4) {j : Nat} (hj : j < n) (v : Value) : R5 n sb bb cb hb tb (w.setCell ⟨sb, j, none⟩ v) (upd g0 j v) g1 g2 g3 g4 := by
  have ho := h.ord
  exact ⟨ho, h.st.set hj v, h.bw.keep (by show bb ≠ sb; omega) v, h.cl.keep (by show cb ≠ sb; omega) v, h.hp.keep (by show hb ≠ sb; omega) v, h.sta.keep (by show tb ≠ sb; omega) v⟩
theorem R5.set1 (h : R5 n sb bb cb hb tb w g0 g1 g2 g3 g4) {j : Nat} (hj : j < n) (v : Value) : R5 n sb bb cb hb tb (w.setCell ⟨bb, j, none⟩ v) g0 (upd g1 j v) g2 g3 g4 := by
  have ho := h.ord
  exact ⟨ho, h.st.keep (by show sb ≠ bb; omega) v, h.bw.set hj v, h.cl.keep (by show cb ≠ bb; omega) v, h.hp.keep (by show hb ≠ bb; omega) v, h.sta.keep (by show tb ≠ bb; omega) v⟩
theorem R5.set4 (h : R5 n sb bb cb hb tb w g0 g1 g2 g3 g4) {j : Nat} (hj : j < n) (v : Value) : R5 n sb bb cb hb tb (w.setCell ⟨tb, j, none⟩ v) g0 g1 g2 g3 (upd g4 j v) := by
  have ho := h.ord
  exact ⟨ho, h.st.keep (by show sb ≠ tb; omega) v, h.bw.keep (by show bb ≠ tb; omega) v, h.cl.keep (by show cb ≠ tb; omega) v, h.hp.keep (by show hb ≠ tb; omega) v, h.sta.set hj v⟩
end

/-- What buildPaths leaves. -/
structure Built (n : Nat) (P : Nat → Int) (d : Int) (B : Nat → Nat) (C : Nat → Int) (pb nb lb r : Nat) (LB : Nat → Nat) (w : World) : Prop where
  no : NodesOk n nb r w
  lk : LinksOk n P d B r lb LB n w
  c0 : w.cell? ⟨pb, 0, none⟩ = some (.map (some r))
  sp : ∃ s, w.cell? ⟨pb, 1, none⟩ = some (.map (some s)) ∧ ((¬ (0 ≤ d ∧ d < n) ∧ PMap w s []) ∨
    (∃ (D sb : Nat) (G : Nat → Option Nat), d = (D : Nat) ∧ D < n ∧ PMap w s [(r + 1 + D, .slice (some ⟨sb, 0, none⟩) n n)] ∧ Row w sb 35 (fun i => gp (G i)) n ∧
      ∀ j, j < n → (∃ l g, G j = some g ∧ IsCh n D P l j ∧ Ch w B C LB l g) ∨ (G j = none ∧ ∀ l, ¬ IsCh n D P l j)))
def BuildPost (n : Nat) (P : Nat → Int) (d : Int) (B : Nat → Nat) (C : Nat → Int) (w : World) (e : Ending) (w' : World) : Prop :=
  ∃ pb nb lb r LB, e = .returned (.tuple #[np pb, .slice (some ⟨nb, 0, none⟩) n n, .slice (some ⟨lb, 0, none⟩) n n, np (r + 1 + n)]) ∧ Built n P d B C pb nb lb r LB w' ∧ Below w.heap.size w w'

theorem cell_new_k {w : World} {cs : Array Value} {t : TypeId} {fr : Nat × Nat} {j k : Nat} {v : Value} (hk : k = w.heap.size) (h : cs[j]? = some v) : (w.alloc (.cells cs t fr)).cell? ⟨k, j, none⟩ = some v := by
  rw [hk]; exact cell_new_at w cs t fr j v h
theorem results_tmp4 {fn : Func} {t u v x : Tmp} (h : fn.results = #[.tmp t, .tmp u, .tmp v, .tmp x]) (tmps : Array Value) (P : Program) (w : World) :
    (results fn tmps).run P w = .ok (.tuple #[tmps.getD t undef, tmps.getD u undef, tmps.getD v undef, tmps.getD x undef]) w := by
  simp [results, h]

/-- What the first loop leaves. -/
def Out1 (n nb r : Nat) (w0 w' : World) : Prop := Row w' nb 30 (fun j => np (r + 1 + j)) n ∧ PMap w' r (idx (r + 1) n) ∧ w'.heap.size = r + 1 + n ∧ (∀ j, j < n → Blk w' (r + 1 + j)) ∧ Below nb w0 w'

set_option maxRecDepth 100000 in
set_option maxHeartbeats 4000000 in
theorem loop1 (cd : Code) (hcd : Try.f7.body.bind (blk? 0) = some cd) (Q : Exit → Act → World → Prop) (n nb r : Nat) (w0 w : World)
    (hn : n ≤ 4096) (hrow : Row w nb 30 (fun _ => .pointer none) n) (hpm : PMap w r []) (hsz : w.heap.size = r + 1) (hnr : nb < r) (hbl : Below nb w0 w)
    (x0 x1 x2 x3 x4 x5 x6 x7 x8 x9 x10 x11 x16 x17 x18 x19 x20 x21 x22 x23 x24 x25 x26 x27 x28 x29 x30 x31 x32 x33 x34 x35 x36 x37 x38 x39 x40 x41 x42 x43 x44 x45 x46 x47 x48 x49 x50 x51 x52 x53 x54 x55 x56 x57 x58 x59 x60 x61 x62 x63 x64 x65 x66 x67 x68 x69 x70 x71 x72 x73 x74 x75 x76 x77 x78 x79 x80 x81 x82 x83 x84 x85 x86 x87 x88 x89 x90 x91 x92 x93 x94 x95 x96 x97 x98 x99 x100 x101 x102 x103 x104 x105 x106 x107 x108 x109 x110 x111 x112 x113 x114 x115 x116 x117 x118 x119 x120 x121 x122 x123 x124 x125 x126 x127 x128 x129 x130 x131 x132 x133 x134 x135 x136 x137 x138 x139 x140 x141 x142 x143 x144 x145 x146 x147 x148 x149 x150 x151 x152 x153 x154 x155 x156 x157 x158 x159 x160 x161 x162 x163 x164 x165 x166 x167 x168 x169 x170 x171 x172 x173 x174 x175 x176 x177 x178 x179 x180 x181 x182 x183 x184 x185 x186 x187 x188 x189 x190 x191 x192 x193 x194 x195 x196 x197 x198 x199 x200 x201 x202 x203 x204 x205 x206 x207 x208 x209 x210 x211 x212 x213 x214 x215 x216 x217 x218 x219 x220 x221 x222 x223 x224 x225 x226 x227 x228 x229 x230 x231 x232 x233 x234 x235 x236 x237 x238 x239 x240 x241 x242 x243 x244 x245 x246 x247 x248 x249 x250 x251 x252 x253 x254 x255 x256 x257 x258 x259 x260 x261 x262 : Value)
    (hQ : ∀ (y15 y41 y42 y43 y44 y45 y46 y47 y48 y49 y50 y51 y52 y53 y54 y55 y56 : Value) (w' : World), Out1 n nb r w0 w' → Q .normal { tmps := #[x0, x1, x2, x3, x4, x5, x6, x7, x8, x9, x10, x11, .int .i64 n, .slice (some ⟨nb, 0, none⟩) n n, .map (some r), y15, x16, x17, x18, x19, x20, x21, x22, x23, x24, x25, x26, x27, x28, x29, x30, x31, x32, x33, x34, x35, x36, x37, x38, x39, x40, y41, y42, y43, y44, y45, y46, y47, y48, y49, y50, y51, y52, y53, y54, y55, y56, x57, x58, x59, x60, x61, x62, x63, x64, x65, x66, x67, x68, x69, x70, x71, x72, x73, x74, x75, x76, x77, x78, x79, x80, x81, x82, x83, x84, x85, x86, x87, x88, x89, x90, x91, x92, x93, x94, x95, x96, x97, x98, x99, x100, x101, x102, x103, x104, x105, x106, x107, x108, x109, x110, x111, x112, x113, x114, x115, x116, x117, x118, x119, x120, x121, x122, x123, x124, x125, x126, x127, x128, x129, x130, x131, x132, x133, x134, x135, x136, x137, x138, x139, x140, x141, x142, x143, x144, x145, x146, x147, x148, x149, x150, x151, x152, x153, x154, x155, x156, x157, x158, x159, x160, x161, x162, x163, x164, x165, x166, x167, x168, x169, x170, x171, x172, x173, x174, x175, x176, x177, x178, x179, x180, x181, x182, x183, x184, x185, x186, x187, x188, x189, x190, x191, x192, x193, x194, x195, x196, x197, x198, x199, x200, x201, x202, x203, x204, x205, x206, x207, x208, x209, x210, x211, x212, x213, x214, x215, x216, x217, x218, x219, x220, x221, x222, x223, x224, x225, x226, x227, x228, x229, x230, x231, x232, x233, x234, x235, x236, x237, x238, x239, x240, x241, x242, x243, x244, x245, x246, x247, x248, x249, x250, x251, x252, x253, x254, x255, x256, x257, x258, x259, x260, x261, x262], defers := [] } w') :
    cd.wp Try.prog Q { tmps := #[x0, x1, x2, x3, x4, x5, x6, x7, x8, x9, x10, x11, .int .i64 n, .slice (some ⟨nb, 0, none⟩) n n, .map (some r), .int .i64 0, x16, x17, x18, x19, x20, x21, x22, x23, x24, x25, x26, x27, x28, x29, x30, x31, x32, x33, x34, x35, x36, x37, x38, x39, x40, x41, x42, x43, x44, x45, x46, x47, x48, x49, x50, x51, x52, x53, x54, x55, x56, x57, x58, x59, x60, x61, x62, x63, x64, x65, x66, x67, x68, x69, x70, x71, x72, x73, x74, x75, x76, x77, x78, x79, x80, x81, x82, x83, x84, x85, x86, x87, x88, x89, x90, x91, x92, x93, x94, x95, x96, x97, x98, x99, x100, x101, x102, x103, x104, x105, x106, x107, x108, x109, x110, x111, x112, x113, x114, x115, x116, x117, x118, x119, x120, x121, x122, x123, x124, x125, x126, x127, x128, x129, x130, x131, x132, x133, x134, x135, x136, x137, x138, x139, x140, x141, x142, x143, x144, x145, x146, x147, x148, x149, x150, x151, x152, x153, x154, x155, x156, x157, x158, x159, x160, x161, x162, x163, x164, x165, x166, x167, x168, x169, x170, x171, x172, x173, x174, x175, x176, x177, x178, x179, x180, x181, x182, x183, x184, x185, x186, x187, x188, x189, x190, x191, x192, x193, x194, x195, x196, x197, x198, x199, x200, x201, x202, x203, x204, x205, x206, x207, x208, x209, x210, x211, x212, x213, x214, x215, x216, x217, x218, x219, x220, x221, x222, x223, x224, x225, x226, x227, x228, x229, x230, x231, x232, x233, x234, x235, x236, x237, x238, x239, x240, x241, x242, x243, x244, x245, x246, x247, x248, x249, x250, x251, x252, x253, x254, x255, x256, x257, x258, x259, x260, x261, x262], defers := [] } w := by
  have hc' : Try.f7.body.bind (blk? 0) = some _ := rfl
  cases hc'.symm.trans hcd
  clear hcd hc'
  go_wp2_with fail
  go_loopw [15] (fun vi wr => ∃ i : Nat, i ≤ n ∧ vi = .int .i64 i ∧ Row wr nb 30 (fun j => if j < i then np (r + 1 + j) else .pointer none) n ∧ PMap wr r (idx (r + 1) i) ∧ wr.heap.size = r + 1 + i ∧ (∀ j, j < i → Blk wr (r + 1 + j)) ∧ Below nb w0 wr) (fun vi _ => n - (intOf vi).toNat)
  case atStart => exact ⟨0, Nat.zero_le _, rfl, hrow.fun_eq (by simp), hpm, by simpa using hsz, by simp, hbl⟩
  case round =>
    obtain ⟨i, hi, rfl, hrow, hm, hsz, hblk, hbr⟩ := hrel
    by_cases hlt : i < n
    · have hc := fun o => (hrow.alloc o).cell' hlt (v := .pointer none) (by simp)
      have hf := fun o => (hrow.alloc o).frozen i
      go_upto_region 8 with fail
      have hne1 : r ≠ nb := by omega
      have hblk2 : ∀ (c : Array Value) (v : Value), ∀ j, j < i + 1 → Blk ((wr.alloc (.cells c 62)).setCell ⟨nb, i, none⟩ v) (r + 1 + j) := fun c v j hj => by
        refine Blk.set ?_ (by show _ ≠ nb; omega) v
        by_cases e : j = i
        · rw [e, ← hsz]; exact Blk.new wr c 62
        · exact (hblk j (by omega)).alloc _
      have hk2 : ∀ (c : Array Value) (v : Value), ∀ p ∈ idx (r + 1) i, Blk ((wr.alloc (.cells c 62)).setCell ⟨nb, i, none⟩ v) p.1 ∧ p.1 ≠ r + 1 + i := fun c v p hp => by
        obtain ⟨j, hj, rfl⟩ := idx_mem hp
        exact ⟨hblk2 c v j (by omega), by show r + 1 + j ≠ _; omega⟩
      go_wp2_with (first | (refine wpList_put30 _ (by rfl) (.tmp 51) (.tmp 55) (.tmp 56) 54 (by rfl) 3 Try.underlying54 r (r + 1 + i) _ (.int .i64 i) (by rfl) (by rfl) (by rfl) ((hm.alloc _).set hne1 _) (hblk2 _ _ i (Nat.lt_succ_self i)) (hk2 _ _) ?_; intro w3 hm3 hg3 hs3))
      go_roundw
      case rel =>
        refine ⟨i + 1, by omega, by go_num, ((((hrow.alloc _).set hlt _).grown hg3 (by simp; omega)).fun_eq ?_), by rw [← idx_succ]; exact hm3, by rw [hs3]; simp; omega, fun j hj => (hblk2 _ _ j hj).grown hg3 (by simp; omega), (((hbr.alloc (by omega) _).setCell (Nat.le_refl _) _).grown hg3 (by simp; omega) (fun j hj => by simp at hj; omega))⟩
        intro j hj
        by_cases e : j = i
        · subst e; simp [upd]
        · have e2 : (j < i + 1) = (j < i) := by simp; omega
          rw [upd_other _ _ _ e]
          simp only [e2]
      case measure => simp [intOf]; omega
    · have hin : n = i := by omega
      subst hin
      have hout : Out1 n nb r w0 wr := ⟨hrow.fun_eq (fun j hj => by simp [hj]), hm, hsz, hblk, hbr⟩
      clear hrow hm hsz hblk hbr
      go_wp2_with fail
      all_goals exact hout

/-- What the second loop leaves. -/
def Out2 (n : Nat) (P : Nat → Int) (d : Int) (B : Nat → Nat) (r lb : Nat) (wx w' : World) : Prop := ∃ LB, LinksOk n P d B r lb LB n w' ∧ Below lb wx w'

set_option maxRecDepth 100000 in
set_option maxHeartbeats 4000000 in
theorem loop2 (cd : Code) (hcd : Try.f7.body.bind (blk? 2) = some cd) (Q : Exit → Act → World → Prop) (n nb r lb : Nat) (P : Nat → Int) (a0 a1 : Option Addr) (c0 l1 c1 : Nat) (F1 : Nat → Nat) (d : Int) (wx w : World)
    (hn : n ≤ 4096) (hl1 : l1 ≤ 4096) (h0 : Nums wx a0 n (fun i => .int .i64 (P i))) (h1 : Nums wx a1 l1 (fun i => .float .f64 (F1 i))) (hno : NodesOk n nb r wx) (hlbx : wx.heap.size = lb)
    (hrow4 : Row w lb 44 (fun _ => .pointer none) n) (hb4 : Below lb wx w)
    (x2 x4 x5 x6 x7 x8 x9 x10 x11 x14 x15 x16 x19 x20 x21 x22 x23 x24 x25 x26 x27 x28 x29 x30 x31 x32 x33 x34 x35 x36 x37 x38 x39 x40 x41 x42 x43 x44 x45 x46 x47 x48 x49 x50 x51 x52 x53 x54 x55 x56 x57 x58 x59 x60 x61 x62 x63 x64 x65 x66 x67 x68 x69 x70 x71 x72 x73 x74 x75 x76 x77 x78 x79 x80 x81 x82 x83 x84 x85 x86 x87 x88 x89 x90 x91 x92 x93 x94 x95 x96 x97 x98 x99 x100 x101 x102 x103 x104 x105 x106 x107 x108 x109 x110 x111 x112 x113 x114 x115 x116 x117 x118 x119 x120 x121 x122 x123 x124 x125 x126 x127 x128 x129 x130 x131 x132 x133 x134 x135 x136 x137 x138 x139 x140 x141 x142 x143 x144 x145 x146 x147 x148 x149 x150 x151 x152 x153 x154 x155 x156 x157 x158 x159 x160 x161 x162 x163 x164 x165 x166 x167 x168 x169 x170 x171 x172 x173 x174 x175 x176 x177 x178 x179 x180 x181 x182 x183 x184 x185 x186 x187 x188 x189 x190 x191 x192 x193 x194 x195 x196 x197 x198 x199 x200 x201 x202 x203 x204 x205 x206 x207 x208 x209 x210 x211 x212 x213 x214 x215 x216 x217 x218 x219 x220 x221 x222 x223 x224 x225 x226 x227 x228 x229 x230 x231 x232 x233 x234 x235 x236 x237 x238 x239 x240 x241 x242 x243 x244 x245 x246 x247 x248 x249 x250 x251 x252 x253 x254 x255 x256 x257 x258 x259 x260 x261 x262 : Value)
    (hQ : ∀ (y18 y19 y61 y62 y63 y64 y65 y66 y67 y68 y69 y70 y71 y72 y73 y74 y75 y76 y77 y78 y79 y80 y81 y82 y83 y84 y85 y86 y87 y88 y89 y90 y91 y92 y93 y94 y95 y96 y97 : Value) (w' : World), Out2 n P d (bwV l1 F1) r lb wx w' → Q .normal { tmps := #[.slice a0 n c0, .slice a1 l1 c1, x2, .int .i64 d, x4, x5, x6, x7, x8, x9, x10, x11, .int .i64 n, .slice (some ⟨nb, 0, none⟩) n n, x14, x15, x16, .slice (some ⟨lb, 0, none⟩) n n, y18, y19, x20, x21, x22, x23, x24, x25, x26, x27, x28, x29, x30, x31, x32, x33, x34, x35, x36, x37, x38, x39, x40, x41, x42, x43, x44, x45, x46, x47, x48, x49, x50, x51, x52, x53, x54, x55, x56, x57, x58, x59, x60, y61, y62, y63, y64, y65, y66, y67, y68, y69, y70, y71, y72, y73, y74, y75, y76, y77, y78, y79, y80, y81, y82, y83, y84, y85, y86, y87, y88, y89, y90, y91, y92, y93, y94, y95, y96, y97, x98, x99, x100, x101, x102, x103, x104, x105, x106, x107, x108, x109, x110, x111, x112, x113, x114, x115, x116, x117, x118, x119, x120, x121, x122, x123, x124, x125, x126, x127, x128, x129, x130, x131, x132, x133, x134, x135, x136, x137, x138, x139, x140, x141, x142, x143, x144, x145, x146, x147, x148, x149, x150, x151, x152, x153, x154, x155, x156, x157, x158, x159, x160, x161, x162, x163, x164, x165, x166, x167, x168, x169, x170, x171, x172, x173, x174, x175, x176, x177, x178, x179, x180, x181, x182, x183, x184, x185, x186, x187, x188, x189, x190, x191, x192, x193, x194, x195, x196, x197, x198, x199, x200, x201, x202, x203, x204, x205, x206, x207, x208, x209, x210, x211, x212, x213, x214, x215, x216, x217, x218, x219, x220, x221, x222, x223, x224, x225, x226, x227, x228, x229, x230, x231, x232, x233, x234, x235, x236, x237, x238, x239, x240, x241, x242, x243, x244, x245, x246, x247, x248, x249, x250, x251, x252, x253, x254, x255, x256, x257, x258, x259, x260, x261, x262], defers := [] } w') :
    cd.wp Try.prog Q { tmps := #[.slice a0 n c0, .slice a1 l1 c1, x2, .int .i64 d, x4, x5, x6, x7, x8, x9, x10, x11, .int .i64 n, .slice (some ⟨nb, 0, none⟩) n n, x14, x15, x16, .slice (some ⟨lb, 0, none⟩) n n, .int .i64 0, x19, x20, x21, x22, x23, x24, x25, x26, x27, x28, x29, x30, x31, x32, x33, x34, x35, x36, x37, x38, x39, x40, x41, x42, x43, x44, x45, x46, x47, x48, x49, x50, x51, x52, x53, x54, x55, x56, x57, x58, x59, x60, x61, x62, x63, x64, x65, x66, x67, x68, x69, x70, x71, x72, x73, x74, x75, x76, x77, x78, x79, x80, x81, x82, x83, x84, x85, x86, x87, x88, x89, x90, x91, x92, x93, x94, x95, x96, x97, x98, x99, x100, x101, x102, x103, x104, x105, x106, x107, x108, x109, x110, x111, x112, x113, x114, x115, x116, x117, x118, x119, x120, x121, x122, x123, x124, x125, x126, x127, x128, x129, x130, x131, x132, x133, x134, x135, x136, x137, x138, x139, x140, x141, x142, x143, x144, x145, x146, x147, x148, x149, x150, x151, x152, x153, x154, x155, x156, x157, x158, x159, x160, x161, x162, x163, x164, x165, x166, x167, x168, x169, x170, x171, x172, x173, x174, x175, x176, x177, x178, x179, x180, x181, x182, x183, x184, x185, x186, x187, x188, x189, x190, x191, x192, x193, x194, x195, x196, x197, x198, x199, x200, x201, x202, x203, x204, x205, x206, x207, x208, x209, x210, x211, x212, x213, x214, x215, x216, x217, x218, x219, x220, x221, x222, x223, x224, x225, x226, x227, x228, x229, x230, x231, x232, x233, x234, x235, x236, x237, x238, x239, x240, x241, x242, x243, x244, x245, x246, x247, x248, x249, x250, x251, x252, x253, x254, x255, x256, x257, x258, x259, x260, x261, x262], defers := [] } w := by
  have hc' : Try.f7.body.bind (blk? 2) = some _ := rfl
  cases hc'.symm.trans hcd
  clear hcd hc'
  have conv : ∀ W, Below lb wx W → Below wx.heap.size wx W := fun W h => by rw [hlbx]; exact h
  have hfl := float_store
  go_wp2_with fail
  go_loopw [18] (fun vi wr => ∃ (i : Nat) (LB : Nat → Nat), i ≤ n ∧ vi = .int .i64 i ∧ LinksOk n P d (bwV l1 F1) r lb LB i wr ∧ Below lb wx wr) (fun vi _ => n - (intOf vi).toNat)
  case atStart => exact ⟨0, fun _ => 0, Nat.zero_le _, rfl, ⟨hrow4.fun_eq (by simp), fun j hj => absurd hj (Nat.not_lt_zero _)⟩, hb4⟩
  case round =>
    obtain ⟨i, LB, hi, rfl, hlk, hbr⟩ := hrel
    by_cases hlt : i < n
    · obtain ⟨b0, o0, rfl, hb0, hc0⟩ := h0 (by omega)
      have hp : wr.cell? ⟨b0, o0 + i, none⟩ = some (.int .i64 (P i)) := (hbr.cell (p := ⟨b0, o0 + i, none⟩) (by rw [← hlbx]; exact hb0)).trans (hc0 i hlt)
      clear hc0
      by_cases hld : linked n P d i
      · obtain ⟨hl1', hl2', hl3'⟩ := hld
        obtain ⟨p, hpe⟩ : ∃ p : Nat, P i = p := ⟨(P i).toNat, by omega⟩
        have hq : ((i : Int) != d) = true := by simpa using hl1'
        rw [hpe] at hl2' hl3' hp
        have HP : Hid (P i = p) := hpe
        clear hpe
        have hpn : p < n := by omega
        go_upto_region 16 with fail
        have hS : ∀ W, Below lb wx W → (W.cell? ⟨nb, i, none⟩ = some (np (r + 1 + i)) ∧ W.cell? ⟨nb, p, none⟩ = some (np (r + 1 + p)) ∧ Nums W a1 l1 (fun i => .float .f64 (F1 i))) := fun W hW =>
          ⟨(hno.below (conv W hW)).row.cell hlt, (hno.below (conv W hW)).row.cell hpn, h1.below (conv W hW)⟩
        have hbd := hbr.drew
        have hle : lb ≤ wr.heap.size := by rw [← hlbx]; exact hbr.size
        have hc := fun o => (hlk.row.alloc o).cell' hlt (v := .pointer none) (by simp)
        have hf := fun o => (hlk.row.alloc o).frozen i
        go_region_held3 (fun W => W.cell? ⟨nb, i, none⟩ = some (np (r + 1 + i)) ∧ W.cell? ⟨nb, p, none⟩ = some (np (r + 1 + p)) ∧ Nums W a1 l1 (fun i => .float .f64 (F1 i)))
          (first | (exact hS _ hbd) | (exact hS _ (hbd.alloc hle _)) | (exact hS _ ((hbd.alloc hle _).setCell (Nat.le_refl _) _)))
          (first | (go_at_call 14; refine (bwAt_any a1 l1 c1 F1 i _ (hS _ hbd).2.2 hl1 (by omega)).mono ?_; rintro e w' ⟨rfl, rfl⟩))
        go_wp2_with fail
        go_roundw
        case rel =>
          refine ⟨i + 1, upd LB i wr.heap.size, by omega, by go_num, ⟨(Row.fun_eq ((hlk.row.alloc _).set hlt _) ?_).heap rfl, ?_⟩, ((hbr.alloc hle _).setCell (Nat.le_refl _) _).drew⟩
          · intro j hj
            by_cases e : j = i
            · subst e
              have hl : linked n P d j := ⟨by simpa using hq, by rw [HP.out]; omega, by rw [HP.out]; omega⟩
              simp [upd, hl]
            · have e2 : (j < i + 1) = (j < i) := by simp; omega
              rw [upd_other _ _ _ e, upd_other _ _ _ e]
              simp only [e2]
          · intro j hj hl
            by_cases e : j = i
            · subst e
              rw [upd_same, HP.out]
              exact ⟨hlk.row.lt, (heap_setCell_other _ _ _ _ (by show wr.heap.size ≠ lb; have := hlk.row.lt; omega)).trans (heap_alloc_new wr _)⟩
            · rw [upd_other _ _ _ e]
              obtain ⟨h5, h6⟩ := hlk.lks j (by omega) hl
              have h7 : LB j < wr.heap.size := (Array.getElem?_eq_some_iff.1 h6).1
              exact ⟨h5, (heap_setCell_other _ _ _ _ (by show LB j ≠ lb; omega)).trans ((heap_alloc_old wr _ h7).trans h6)⟩
        case measure => simp [intOf]; omega
      · have hst : ¬ (((i : Int) ≠ d) ∧ 0 ≤ P i ∧ P i < n) := hld
        have hnew : LinksOk n P d (bwV l1 F1) r lb LB (i + 1) wr := by
          refine ⟨hlk.row.fun_eq (fun j hj => ?_), fun j hj hl => hlk.lks j ?_ hl⟩
          · by_cases e : j = i
            · subst e; simp [hld]
            · have e2 : (j < i + 1) = (j < i) := by simp; omega
              simp only [e2]
          · have : j ≠ i := by rintro rfl; exact hld hl
            omega
        clear hld hlk
        by_cases hd : (i : Int) = d
        · have hq : ((i : Int) != d) = false := by simpa using hd
          clear hst hd
          go_wp2_with fail
          go_roundw
          case rel => exact ⟨i + 1, LB, by omega, by go_num, hnew, hbr⟩
          case measure => simp [intOf]; omega
        · have hq : ((i : Int) != d) = true := by simpa using hd
          by_cases hneg : P i < 0
          · clear hst
            go_wp2_with fail
            go_roundw
            case rel => exact ⟨i + 1, LB, by omega, by go_num, hnew, hbr⟩
            case measure => simp [intOf]; omega
          · have hge : (n : Int) ≤ P i := by omega
            clear hst
            go_wp2_with fail
            go_roundw
            case rel => exact ⟨i + 1, LB, by omega, by go_num, hnew, hbr⟩
            case measure => simp [intOf]; omega
    · have hin : n = i := by omega
      subst hin
      have hout : Out2 n P d (bwV l1 F1) r lb wx wr := ⟨LB, hlk, hbr⟩
      clear hlk hbr
      go_wp2_with fail
      all_goals exact hout
end Go.Proofs.Qxb6613771a
