/-
  (*Paths).Path: none, the self path, a path.
-/
import Derived.Test.Qxb6613771aMaps
import Derived.Deep.WholeRow
import Derived.Laws.ResultCell
import Derived.Deep.MidRow
namespace Go.Proofs.Qxb6613771a
open Go.RowKit
set_option linter.unusedVariables false

theorem zero65 (w : World) : (zeroValue 65).run Try.prog w = .ok (.slice none 0 0) w := by kernel_rfl
theorem zero3 (w : World) : (zeroValue 3).run Try.prog w = .ok (.int .i64 0) w := by kernel_rfl

theorem PMap.alloc {w : World} {r : Nat} {kv : List (Nat × Value)} (h : PMap w r kv) (o : Obj) : PMap (w.alloc o) r kv := h.below (B := w.heap.size) ((Below.refl _ _).alloc (Nat.le_refl _) o) h.lt
theorem Blk.alloc {w : World} {r : Nat} (h : Blk w r) (o : Obj) : Blk (w.alloc o) r := h.below (B := w.heap.size) ((Below.refl _ _).alloc (Nat.le_refl _) o) h.lt
theorem cell_alloc {w : World} {a : Addr} {x : Value} (h : w.cell? a = some x) (o : Obj) : (w.alloc o).cell? a = some x := cellk ((Below.refl _ _).alloc (Nat.le_refl _) o) h

theorem info38 : (Try.prog.info? 38).map (·.size) = some 5 := by kernel_rfl
abbrev pathC (cl : Int) (bw : Nat) (hp : Int) (p q : Option Addr) : Array Value := #[.int .i64 cl, .float .f64 bw, .int .i64 hp, .pointer p, .pointer q]
theorem store38 (w : World) (cl : Int) (bw : Nat) (hp : Int) (p q : Option Addr) : (Instr.storeAt 38 (.pointer (some ⟨w.heap.size, 0, none⟩)) (.agg (pathC cl bw hp p q))).run Try.prog (w.alloc (.cells (pathC 0 0 0 none none) 38)) = .ok () (w.alloc (.cells (pathC cl bw hp p q) 38)) :=
  run_storeAt_new w 38 (pathC 0 0 0 none none) (pathC cl bw hp p q) (info38.trans rfl) rfl (by simp [Value.oneCell'])
theorem wpList_store38 {ops : Array Oper} {rest : List Oper} {op : Oper} {a : Act} {Q : Exit → Act → World → Prop} (w : World) (hgd : op.guard = none) (x y : Operand) (ho : op.op = .store 38 x y)
    (cl : Int) (bw : Nat) (hp : Int) (p q : Option Addr) (hx : a.eval x = .pointer (some ⟨w.heap.size, 0, none⟩)) (hy : a.eval y = .agg (pathC cl bw hp p q))
    (h : wpList Try.prog ops Q rest (a.put op.dst undef) (w.alloc (.cells (pathC cl bw hp p q) 38))) : wpList Try.prog ops Q (op :: rest) a (w.alloc (.cells (pathC 0 0 0 none none) 38)) := by
  refine wpList_plain hgd fun _ hK => ?_
  unfold Oper.wp execOp
  simp only [ho, hx, hy, Sem.run_bind, store38, Result.andThen_ok]
  exact hK _ _ h
theorem ret8 (w : World) (tmps : Array Value) (cl : Int) (bw : Nat) (hp : Int) (p q : Option Addr) (b : Bool) (h6 : tmps.getD 6 undef = .pointer (some ⟨w.heap.size, 0, none⟩)) (h7 : tmps.getD 7 undef = .bool b) :
    (results Try.f8 tmps).run Try.prog (w.alloc (.cells (pathC cl bw hp p q) 38)) = .ok (.tuple #[.agg (pathC cl bw hp p q), .bool b]) (w.alloc (.cells (pathC cl bw hp p q) 38)) := by
  have h := run_loadVar_row (P := Try.prog) (w.alloc (.cells (pathC cl bw hp p q) 38)) w.heap.size 38 38 _ (0, 0) _ (heap_alloc_new w _) Try.underlying38 (by rfl) (info38.trans rfl)
  rw [results_cell_tmp (p := 6) (u := 7) (ty := 38) (by rfl), h6, h7]
  simp only [asAddr, Sem.run_pure, Result.andThen_ok, h]
theorem float_store (b : Nat) (a : Addr) (W : World) : (store a (.float .f64 b)).run Try.prog W = match W.cell? a with
      | some _ => if W.frozen? a then .halt (.unsupported (.unsafePointer "a write to bytes that a string shares")) W else .ok () (W.setCell a (.float .f64 b))
      | none => match W.farStore Try.prog a (.float .f64 b) (Mode.plain == .atomic) with
        | .ok (w', _) => .ok () w'
        | .error h => .halt h W := run_store Try.prog W a (.float .f64 b) .plain rfl
abbrev zeroPath : Value := .agg #[.int .i64 0, .float .f64 0, .int .i64 0, .pointer none, .pointer none]

set_option maxRecDepth 100000 in
set_option maxHeartbeats 4000000 in
theorem path_noDest (pb r s fb tb : Nat) (w : World) (hr : w.cell? ⟨pb, 0, none⟩ = some (.map (some r))) (hs : w.cell? ⟨pb, 1, none⟩ = some (.map (some s)))
    (v : Value) (b : Bool)
    (kv : List (Nat × Value)) (hm : PMap w s kv) (hk : ∀ p ∈ kv, Blk w p.1 ∧ p.1 ≠ tb) (ht : Blk w tb)
    (hi : (Instr.lookup 54 (.map (some r)) (np fb) true).run Try.prog (w.alloc (.cells #[.int .i64 0, .float .f64 0, .int .i64 0, .pointer none, .pointer none] 38)) = .ok (.tuple #[v, .bool b]) (w.alloc (.cells #[.int .i64 0, .float .f64 0, .int .i64 0, .pointer none, .pointer none] 38))) :
    Calls Try.prog 8 #[np pb, np fb, np tb] w fun e w' => e = .returned (.tuple #[zeroPath, .bool false]) ∧ Below w.heap.size w w' := by
  have hb1 : Below w.heap.size w (w.alloc (.cells #[.int .i64 0, .float .f64 0, .int .i64 0, .pointer none, .pointer none] 38)) := (Below.refl _ _).alloc (Nat.le_refl _) _
  have hl := look_none (w := w.alloc (.cells #[.int .i64 0, .float .f64 0, .int .i64 0, .pointer none, .pointer none] 38)) 64 65 _ Try.underlying64 (zero65 _) (hm.alloc _) (ht.alloc _) (fun p hp => ⟨(hk p hp).1.alloc _, (hk p hp).2⟩)
  have hr1 := cell_alloc hr (.cells #[.int .i64 0, .float .f64 0, .int .i64 0, .pointer none, .pointer none] 38)
  have hs1 := cell_alloc hs (.cells #[.int .i64 0, .float .f64 0, .int .i64 0, .pointer none, .pointer none] 38)
  go_enter Try.func8, Try.ntmps8
  go_wp2_with (refine wpList_store38 w (by rfl) (.tmp 6) (.tmp 44) (by rfl) 0 0 0 none none (by rfl) (by rfl) ?_)
  refine bodyPost_ret (ret8 w _ 0 0 0 none none false (by rfl) (by rfl)) rfl ?_
  exact ⟨rfl, (Below.refl _ _).alloc (Nat.le_refl _) _⟩

set_option maxRecDepth 100000 in
set_option maxHeartbeats 4000000 in
theorem path_noFrom (pb r s fb tb : Nat) (w : World) (hr : w.cell? ⟨pb, 0, none⟩ = some (.map (some r))) (hs : w.cell? ⟨pb, 1, none⟩ = some (.map (some s)))
    (v : Value)
    (kv : List (Nat × Value)) (hm : PMap w r kv) (hk : ∀ p ∈ kv, Blk w p.1 ∧ p.1 ≠ fb) (ht : Blk w fb)
    (hl : (Instr.lookup 64 (.map (some s)) (np tb) true).run Try.prog (w.alloc (.cells (pathC 0 0 0 none none) 38)) = .ok (.tuple #[v, .bool true]) (w.alloc (.cells (pathC 0 0 0 none none) 38))) :
    Calls Try.prog 8 #[np pb, np fb, np tb] w fun e w' => e = .returned (.tuple #[zeroPath, .bool false]) ∧ Below w.heap.size w w' := by
  have hi := look_none (w := w.alloc (.cells (pathC 0 0 0 none none) 38)) 54 3 _ Try.underlying54 (zero3 _) (hm.alloc _) (ht.alloc _) (fun p hp => ⟨(hk p hp).1.alloc _, (hk p hp).2⟩)
  have hr1 := cell_alloc hr (.cells #[.int .i64 0, .float .f64 0, .int .i64 0, .pointer none, .pointer none] 38)
  have hs1 := cell_alloc hs (.cells #[.int .i64 0, .float .f64 0, .int .i64 0, .pointer none, .pointer none] 38)
  go_enter Try.func8, Try.ntmps8
  go_wp2_with (refine wpList_store38 w (by rfl) (.tmp 6) (.tmp 44) (by rfl) 0 0 0 none none (by rfl) (by rfl) ?_)
  refine bodyPost_ret (ret8 w _ 0 0 0 none none false (by rfl) (by rfl)) rfl ?_
  exact ⟨rfl, (Below.refl _ _).alloc (Nat.le_refl _) _⟩

set_option maxRecDepth 100000 in
set_option maxHeartbeats 4000000 in
theorem path_nil (pb r s fb tb sb n i : Nat) (w : World) (hr : w.cell? ⟨pb, 0, none⟩ = some (.map (some r))) (hs : w.cell? ⟨pb, 1, none⟩ = some (.map (some s)))
    (hin : i < n) (hn : n ≤ 4096) (hc : w.cell? ⟨sb, i, none⟩ = some (.pointer none))
    (hi : (Instr.lookup 54 (.map (some r)) (np fb) true).run Try.prog (w.alloc (.cells (pathC 0 0 0 none none) 38)) = .ok (.tuple #[.int .i64 i, .bool true]) (w.alloc (.cells (pathC 0 0 0 none none) 38)))
    (hl : (Instr.lookup 64 (.map (some s)) (np tb) true).run Try.prog (w.alloc (.cells (pathC 0 0 0 none none) 38)) = .ok (.tuple #[.slice (some ⟨sb, 0, none⟩) n n, .bool true]) (w.alloc (.cells (pathC 0 0 0 none none) 38))) :
    Calls Try.prog 8 #[np pb, np fb, np tb] w fun e w' => e = .returned (.tuple #[zeroPath, .bool false]) ∧ Below w.heap.size w w' := by
  have hr1 := cell_alloc hr (.cells #[.int .i64 0, .float .f64 0, .int .i64 0, .pointer none, .pointer none] 38)
  have hs1 := cell_alloc hs (.cells #[.int .i64 0, .float .f64 0, .int .i64 0, .pointer none, .pointer none] 38)
  have hc1 := cell_alloc hc (.cells #[.int .i64 0, .float .f64 0, .int .i64 0, .pointer none, .pointer none] 38)
  go_enter Try.func8, Try.ntmps8
  go_wp2_with (refine wpList_store38 w (by rfl) (.tmp 6) (.tmp 44) (by rfl) 0 0 0 none none (by rfl) (by rfl) ?_)
  refine bodyPost_ret (ret8 w _ 0 0 0 none none false (by rfl) (by rfl)) rfl ?_
  exact ⟨rfl, (Below.refl _ _).alloc (Nat.le_refl _) _⟩

set_option maxRecDepth 100000 in
set_option maxHeartbeats 4000000 in
theorem path_self (pb r s fb tb sb n i g : Nat) (cl : Int) (w : World) (hr : w.cell? ⟨pb, 0, none⟩ = some (.map (some r))) (hs : w.cell? ⟨pb, 1, none⟩ = some (.map (some s)))
    (hin : i < n) (hn : n ≤ 4096) (hc : w.cell? ⟨sb, i, none⟩ = some (np g)) (hg0 : w.cell? ⟨g, 0, none⟩ = some (.pointer none)) (hg3 : w.cell? ⟨g, 3, none⟩ = some (.int .i64 cl))
    (hi : (Instr.lookup 54 (.map (some r)) (np fb) true).run Try.prog (w.alloc (.cells (pathC 0 0 0 none none) 38)) = .ok (.tuple #[.int .i64 i, .bool true]) (w.alloc (.cells (pathC 0 0 0 none none) 38)))
    (hl : (Instr.lookup 64 (.map (some s)) (np tb) true).run Try.prog (w.alloc (.cells (pathC 0 0 0 none none) 38)) = .ok (.tuple #[.slice (some ⟨sb, 0, none⟩) n n, .bool true]) (w.alloc (.cells (pathC 0 0 0 none none) 38))) :
    Calls Try.prog 8 #[np pb, np fb, np tb] w fun e w' => e = .returned (.tuple #[.agg (pathC cl 4662219572839972864 0 (some ⟨g, 0, none⟩) none), .bool true]) ∧ Below w.heap.size w w' := by
  have hr1 := cell_alloc hr (.cells #[.int .i64 0, .float .f64 0, .int .i64 0, .pointer none, .pointer none] 38)
  have hs1 := cell_alloc hs (.cells #[.int .i64 0, .float .f64 0, .int .i64 0, .pointer none, .pointer none] 38)
  have hc1 := cell_alloc hc (.cells #[.int .i64 0, .float .f64 0, .int .i64 0, .pointer none, .pointer none] 38)
  have hg01 := cell_alloc hg0 (.cells #[.int .i64 0, .float .f64 0, .int .i64 0, .pointer none, .pointer none] 38)
  have hg31 := cell_alloc hg3 (.cells #[.int .i64 0, .float .f64 0, .int .i64 0, .pointer none, .pointer none] 38)
  go_enter Try.func8, Try.ntmps8
  go_wp2_with (refine wpList_store38 w (by rfl) (.tmp 6) (.tmp 60) (by rfl) cl 4662219572839972864 0 (some ⟨g, 0, none⟩) none (by rfl) (by rfl) ?_)
  refine bodyPost_ret (ret8 w _ cl 4662219572839972864 0 (some ⟨g, 0, none⟩) none true (by rfl) (by rfl)) rfl ?_
  exact ⟨rfl, (Below.refl _ _).alloc (Nat.le_refl _) _⟩

set_option maxRecDepth 100000 in
set_option maxHeartbeats 4000000 in
theorem path_link (pb r s fb tb sb n i g lb : Nat) (cl hp : Int) (bw : Nat) (w : World) (hr : w.cell? ⟨pb, 0, none⟩ = some (.map (some r))) (hs : w.cell? ⟨pb, 1, none⟩ = some (.map (some s)))
    (hin : i < n) (hn : n ≤ 4096) (hc : w.cell? ⟨sb, i, none⟩ = some (np g)) (hg0 : w.cell? ⟨g, 0, none⟩ = some (np lb)) (hg2 : w.cell? ⟨g, 2, none⟩ = some (.float .f64 bw)) (hg3 : w.cell? ⟨g, 3, none⟩ = some (.int .i64 cl)) (hg4 : w.cell? ⟨g, 4, none⟩ = some (.int .i64 hp))
    (hi : (Instr.lookup 54 (.map (some r)) (np fb) true).run Try.prog (w.alloc (.cells (pathC 0 0 0 none none) 38)) = .ok (.tuple #[.int .i64 i, .bool true]) (w.alloc (.cells (pathC 0 0 0 none none) 38)))
    (hl : (Instr.lookup 64 (.map (some s)) (np tb) true).run Try.prog (w.alloc (.cells (pathC 0 0 0 none none) 38)) = .ok (.tuple #[.slice (some ⟨sb, 0, none⟩) n n, .bool true]) (w.alloc (.cells (pathC 0 0 0 none none) 38))) :
    Calls Try.prog 8 #[np pb, np fb, np tb] w fun e w' => e = .returned (.tuple #[.agg (pathC cl bw hp (some ⟨g, 0, none⟩) none), .bool true]) ∧ Below w.heap.size w w' := by
  have hr1 := cell_alloc hr (.cells #[.int .i64 0, .float .f64 0, .int .i64 0, .pointer none, .pointer none] 38)
  have hs1 := cell_alloc hs (.cells #[.int .i64 0, .float .f64 0, .int .i64 0, .pointer none, .pointer none] 38)
  have hc1 := cell_alloc hc (.cells #[.int .i64 0, .float .f64 0, .int .i64 0, .pointer none, .pointer none] 38)
  have hg01 := cell_alloc hg0 (.cells #[.int .i64 0, .float .f64 0, .int .i64 0, .pointer none, .pointer none] 38)
  have hg21 := cell_alloc hg2 (.cells #[.int .i64 0, .float .f64 0, .int .i64 0, .pointer none, .pointer none] 38)
  have hg31 := cell_alloc hg3 (.cells #[.int .i64 0, .float .f64 0, .int .i64 0, .pointer none, .pointer none] 38)
  have hg41 := cell_alloc hg4 (.cells #[.int .i64 0, .float .f64 0, .int .i64 0, .pointer none, .pointer none] 38)
  go_enter Try.func8, Try.ntmps8
  go_upto_region 8 with fail
  clear hi hl hr1 hs1 hc1 hr hs hc hg0
  have hfl := float_store
  go_region_held3 (fun w' => w'.cell? ⟨g, 2, none⟩ = some (.float .f64 bw) ∧ w'.cell? ⟨g, 3, none⟩ = some (.int .i64 cl) ∧ w'.cell? ⟨g, 4, none⟩ = some (.int .i64 hp)) (first | (exact ⟨hg21, hg31, hg41⟩) | (exact ⟨cell_alloc hg2 _, cell_alloc hg3 _, cell_alloc hg4 _⟩) | go_keep)
    (fail)
  go_wp2_with fail
  refine bodyPost_ret (ret8 w.drew _ cl bw hp (some ⟨g, 0, none⟩) none true (by rfl) (by rfl)) rfl ?_
  exact ⟨rfl, ((Below.refl _ _).drew).alloc (Nat.le_refl _) _⟩
end Go.Proofs.Qxb6613771a
