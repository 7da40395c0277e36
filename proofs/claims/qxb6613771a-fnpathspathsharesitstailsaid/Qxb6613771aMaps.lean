/-
  Maps whose keys are pointers to nodes: what a lookup answers, what a store leaves.
-/
import Derived.Test.Qxb6613771aLinks
import Derived.LaidEql
import Derived.MapKept
namespace Go.Proofs.Qxb6613771a
open Go.RowKit
set_option linter.unusedVariables false

theorem Try.info62 : (Try.prog.info? 62).map (fun i => decide (i.size = 0)) = some false := by kernel_rfl

/-- Block b holds cells that nobody froze. -/
def Blk (w : World) (b : Nat) : Prop := ∃ c t, w.heap[b]? = some (.cells c t (0, 0))
theorem Blk.lt {w : World} {b : Nat} (h : Blk w b) : b < w.heap.size := by
  obtain ⟨c, t, h⟩ := h
  exact (Array.getElem?_eq_some_iff.1 h).1
theorem Blk.below {w w' : World} {b B : Nat} (h : Blk w b) (hb : Below B w w') (hB : b < B) : Blk w' b := by
  obtain ⟨c, t, h⟩ := h
  exact ⟨c, t, (hb.block b hB).trans h⟩

abbrev np (b : Nat) : Value := .pointer (some ⟨b, 0, none⟩)

theorem equalIn30 {w : World} (d : Nat) {a b : Nat} (ha : Blk w a) (hb : Blk w b) : (Op.equalIn (d + 1) 30 (np a) (np b)).run Try.prog w = .ok (a == b) w := by
  obtain ⟨ca, ta, ha⟩ := ha
  obtain ⟨cb, tb, hb⟩ := hb
  have hi := Try.info62
  cases hj : Try.prog.info? 62 with
  | none => simp [hj] at hi
  | some j =>
    have hz : j.size ≠ 0 := by simpa [hj] using hi
    by_cases e : a = b
    · subst e
      simp [Op.equalIn, run_underlying Try.underlying30, sizeOf, typeInfo, hj, run_sameAddr_same]
    · have hne : (⟨a, 0, none⟩ : Addr) ≠ ⟨b, 0, none⟩ := by intro h; exact e (congrArg Addr.block h)
      have h1 := run_sameAddr_other (P := Try.prog) w hne ha hb
      have h2 : (a == b) = false := by simp [e]
      rw [h2]
      simp [Op.equalIn, run_underlying Try.underlying30, sizeOf, typeInfo, hj, hz, h1]
theorem equal30 {w : World} {a b : Nat} (ha : Blk w a) (hb : Blk w b) : (Op.equal 30 (np a) (np b)).run Try.prog w = .ok (a == b) w := equalIn30 9999 ha hb

/-- Entries that bear the keys and the values of kv, in order. -/
def Ents (es : List MapEntry) (kv : List (Nat × Value)) : Prop := es.map (fun e => (e.key, e.val)) = kv.map (fun p => (np p.1, p.2))
theorem Ents.cons {e : MapEntry} {es : List MapEntry} {kv : List (Nat × Value)} (h : Ents (e :: es) kv) : ∃ b v r, kv = (b, v) :: r ∧ e.key = np b ∧ e.val = v ∧ Ents es r := by
  cases kv with
  | nil => simp [Ents] at h
  | cons p r =>
    simp only [Ents, List.map_cons, List.cons.injEq, Prod.mk.injEq] at h
    exact ⟨p.1, p.2, r, rfl, h.1.1, h.1.2, h.2⟩
theorem Ents.nil {kv : List (Nat × Value)} (h : Ents [] kv) : kv = [] := by
  cases kv with
  | nil => rfl
  | cons p r => simp [Ents] at h

theorem findKey_asking (w : World) (x : Nat) (es : List MapEntry) (kv : List (Nat × Value)) (h : Ents es kv) : (Instr.findKey 30 (np x) es).run Try.prog w = (Instr.findAsking 30 (np x) es).run Try.prog w := by
  cases es with
  | nil => simp [Instr.findKey, run_underlying Try.underlying30, Instr.findNow, Instr.findAsking]
  | cons e es => simp [Instr.findKey, run_underlying Try.underlying30, Instr.findNow, Instr.sameNow]

theorem asking_none {w : World} {x : Nat} (hx : Blk w x) : ∀ (es : List MapEntry) (kv : List (Nat × Value)) (i : Nat), Ents es kv → (∀ p ∈ kv, Blk w p.1 ∧ p.1 ≠ x) → (Instr.findAsking 30 (np x) es i).run Try.prog w = .ok none w
  | [], kv, i, h, hk => by simp [Instr.findAsking]
  | e :: es, kv, i, h, hk => by
    obtain ⟨b, v, r, rfl, h1, h2, h3⟩ := h.cons
    have hb := hk (b, v) (by simp)
    have hq : (x == b) = false := by simp only [beq_eq_false_iff_ne, ne_eq]; exact fun e => hb.2 e.symm
    have he := equal30 hx hb.1
    have ih := asking_none hx es r (i + 1) h3 (fun p hp => hk p (by simp [hp]))
    simp [Instr.findAsking, h1, he, hq, ih]

theorem asking_some {w : World} {x : Nat} (hx : Blk w x) (v : Value) : ∀ (es : List MapEntry) (kv : List (Nat × Value)) (i : Nat), Ents es kv → (∀ p ∈ kv, Blk w p.1 ∧ (p.1 = x → p.2 = v)) → (∃ p ∈ kv, p.1 = x) → ∃ j, (Instr.findAsking 30 (np x) es i).run Try.prog w = .ok (some (j, v)) w
  | [], kv, i, h, hk, ⟨p, hp, _⟩ => by rw [h.nil] at hp; simp at hp
  | e :: es, kv, i, h, hk, hex => by
    obtain ⟨b, u, r, rfl, h1, h2, h3⟩ := h.cons
    have hb := hk (b, u) (by simp)
    have he := equal30 hx hb.1
    by_cases hq : x = b
    · have hq2 : (x == b) = true := by simp [hq]
      have hv : u = v := hb.2 hq.symm
      exact ⟨i, by simp [Instr.findAsking, h1, he, hq2, h2, hv]⟩
    · have hq2 : (x == b) = false := by simp [hq]
      obtain ⟨p, hp, hpx⟩ := hex
      have hp' : p ∈ r := by
        rcases List.mem_cons.1 hp with rfl | hp
        · exact absurd hpx.symm hq
        · exact hp
      obtain ⟨j, ih⟩ := asking_some hx v es r (i + 1) h3 (fun p hp => hk p (by simp [hp])) ⟨p, hp', hpx⟩
      exact ⟨j, by simp [Instr.findAsking, h1, he, hq2, ih]⟩

/-- Block r holds a map from nodes: the keys and the values of kv. -/
def PMap (w : World) (r : Nat) (kv : List (Nat × Value)) : Prop := ∃ es clock, w.heap[r]? = some (.map es clock) ∧ Ents es.toList kv
theorem PMap.lt {w : World} {r : Nat} {kv : List (Nat × Value)} (h : PMap w r kv) : r < w.heap.size := by
  obtain ⟨c, t, h, _⟩ := h
  exact (Array.getElem?_eq_some_iff.1 h).1
theorem PMap.below {w w' : World} {b B : Nat} {kv : List (Nat × Value)} (h : PMap w b kv) (hb : Below B w w') (hB : b < B) : PMap w' b kv := by
  obtain ⟨c, t, h, h2⟩ := h
  exact ⟨c, t, (hb.block b hB).trans h, h2⟩

theorem checkKey30 (w : World) (e : Bool) (x : Nat) : (Instr.checkKey e 10000 30 (np x)).run Try.prog w = .ok () w := by
  have : ∀ n, (Instr.checkKey e (n + 1) 30 (np x)).run Try.prog w = .ok () w := fun n => by
    unfold Instr.checkKey
    simp [run_underlying Try.underlying30]
  exact this 9999

theorem look_none {w : World} {r x : Nat} {kv : List (Nat × Value)} (t e : TypeId) (z : Value) (hu : Try.prog.underlying t = some (.map 30 e)) (hz : (zeroValue e).run Try.prog w = .ok z w) (h : PMap w r kv) (hx : Blk w x) (hk : ∀ p ∈ kv, Blk w p.1 ∧ p.1 ≠ x) :
    (Instr.lookup t (.map (some r)) (np x) true).run Try.prog w = .ok (.tuple #[z, .bool false]) w := by
  obtain ⟨es, clock, hb, he⟩ := h
  have h1 := asking_none hx es.toList kv 0 he hk
  have h2 := findKey_asking w x es.toList kv he
  rw [h1] at h2
  simp [Instr.lookup, run_underlying hu, MapKept.run_getObj_map hb, checkKey30, h2, hz]

theorem look_some {w : World} {r x : Nat} {kv : List (Nat × Value)} (t e : TypeId) (v : Value) (hu : Try.prog.underlying t = some (.map 30 e)) (h : PMap w r kv) (hx : Blk w x) (hk : ∀ p ∈ kv, Blk w p.1 ∧ (p.1 = x → p.2 = v)) (hex : ∃ p ∈ kv, p.1 = x) :
    (Instr.lookup t (.map (some r)) (np x) true).run Try.prog w = .ok (.tuple #[v, .bool true]) w := by
  obtain ⟨es, clock, hb, he⟩ := h
  obtain ⟨j, h1⟩ := asking_some hx v es.toList kv 0 he hk hex
  have h2 := findKey_asking w x es.toList kv he
  rw [h1] at h2
  simp [Instr.lookup, run_underlying hu, MapKept.run_getObj_map hb, checkKey30, h2]

theorem put_new {w : World} {r x : Nat} {kv : List (Nat × Value)} (t e : TypeId) (v : Value) (hu : Try.prog.underlying t = some (.map 30 e)) (h : PMap w r kv) (hx : Blk w x) (hk : ∀ p ∈ kv, Blk w p.1 ∧ p.1 ≠ x) :
    ∃ w', (Instr.mapUpdate t (.map (some r)) (np x) v).run Try.prog w = .ok () w' ∧ PMap w' r (kv ++ [(x, v)]) ∧ w.grownBy w' (some r) ∧ w'.heap.size = w.heap.size := by
  obtain ⟨es, clock, hb, he⟩ := h
  have h1 := asking_none hx es.toList kv 0 he hk
  have h2 := findKey_asking w x es.toList kv he
  rw [h1] at h2
  refine ⟨{ w with heap := w.heap.setIfInBounds r (.map (es.push { key := np x, val := v, born := clock }) (clock + 1)) }, ?_, ⟨_, _, (MapKept.heap_set hb).1, ?_⟩, ⟨rfl, rfl, rfl, by simp, fun k hk hne => (MapKept.heap_set hb).2 k (fun e => hne (by rw [e]))⟩, by simp⟩
  · simp [Instr.mapUpdate, run_underlying hu, MapKept.run_getObj_map hb, checkKey30, h2, MapKept.run_setObj_map _ hb]
  · simp only [Ents, Array.toList_push, List.map_append, List.map_cons, List.map_nil]
    rw [show es.toList.map (fun e => (e.key, e.val)) = _ from he]
end Go.Proofs.Qxb6613771a
