/-
  Seat b6608868a: the window in memory ('Win'); sum (31), ZZsum (20).
-/
import Derived.Test.Qxb6608868aTally
import Derived.Deep.MidRow
namespace Go.Proofs.Qxb6608868a
open Go.RowKit

/-- Block b is a window: origin o, the buckets' slots, requests, network errors; no statuses, no latencies. -/
structure Win (w : World) (b : Nat) (o : Int) (S R E : Nat → Int) : Prop where
  lt : b < w.heap.size
  org : w.cell? ⟨b, 0, none⟩ = some (.int .i64 o)
  slot : ∀ i, i < 10 → w.cell? ⟨b, 1 + i * 63, none⟩ = some (.int .i64 (S i)) ∧ w.frozen? ⟨b, 1 + i * 63, none⟩ = false
  req : ∀ i, i < 10 → w.cell? ⟨b, 1 + i * 63 + 1, none⟩ = some (.int .i64 (R i)) ∧ w.frozen? ⟨b, 1 + i * 63 + 1, none⟩ = false
  err : ∀ i, i < 10 → w.cell? ⟨b, 1 + i * 63 + 2, none⟩ = some (.int .i64 (E i)) ∧ w.frozen? ⟨b, 1 + i * 63 + 2, none⟩ = false
  sts : ∀ i, i < 10 → w.cell? ⟨b, 1 + i * 63 + 3, none⟩ = some (.slice none 0 0)
  grp : ∀ i g, i < 10 → g < 58 → w.cell? ⟨b, 1 + i * 63 + 5 + g, none⟩ = some (.pointer none)

theorem Win.below {w w' : World} {b : Nat} {o : Int} {S R E : Nat → Int} (h : Win w b o S R E) {n : Nat} (hb : Below n w w') (hn : b < n) : Win w' b o S R E := by
  have c : ∀ k, w'.cell? ⟨b, k, none⟩ = w.cell? ⟨b, k, none⟩ := fun k => hb.cell (p := ⟨b, k, none⟩) hn
  have f : ∀ k, w'.frozen? ⟨b, k, none⟩ = w.frozen? ⟨b, k, none⟩ := fun k => hb.frozen (p := ⟨b, k, none⟩) hn
  exact ⟨Nat.lt_of_lt_of_le h.lt hb.size, (c _).trans h.org, fun i hi => ⟨(c _).trans (h.slot i hi).1, (f _).trans (h.slot i hi).2⟩, fun i hi => ⟨(c _).trans (h.req i hi).1, (f _).trans (h.req i hi).2⟩, fun i hi => ⟨(c _).trans (h.err i hi).1, (f _).trans (h.err i hi).2⟩, fun i hi => (c _).trans (h.sts i hi), fun i g hi hg => (c _).trans (h.grp i g hi hg)⟩

/-- The first k values whose slot lies in the window at s, summed. -/
def sumIn (p : Int → Bool) (S V : Nat → Int) : Nat → Int
  | 0 => 0
  | i + 1 => sumIn p S V i + (if p (S i) = true then V i else 0)
theorem sumIn_bound (p : Int → Bool) (S : Nat → Int) {V : Nat → Int} {n : Nat} (h : ∀ j, j < n → 0 ≤ V j ∧ V j ≤ 1099511627776) : ∀ k, k ≤ n → 0 ≤ sumIn p S V k ∧ sumIn p S V k ≤ k * 1099511627776
  | 0, _ => ⟨Int.le_refl _, by show (0 : Int) ≤ _; omega⟩
  | k + 1, hk => by
    have ih := sumIn_bound p S h k (by omega)
    have hv := h k (by omega)
    show 0 ≤ sumIn p S V k + _ ∧ sumIn p S V k + _ ≤ _
    split <;> omega

/-- A tally's cells. -/
def tvals (r e : Int) : List Value := [.int .i64 r, .int .i64 e, .slice none 0 0, .int .i64 0] ++ List.replicate 58 (.pointer none)
theorem tvals_len (r e : Int) : (tvals r e).length = 62 := by simp [tvals]
theorem tvals_rest (r e r' e' : Int) {k : Nat} (h : 2 ≤ k) : (tvals r e)[k]? = (tvals r' e')[k]? := by
  obtain ⟨j, rfl⟩ : ∃ j, k = j + 2 := ⟨k - 2, by omega⟩
  rfl
theorem tvals_one (r e : Int) : (tvals r e).toArray.all (·.oneCell') = true := all_oneCell_toArray (fun v hv => by
  simp only [tvals, List.mem_append, List.mem_cons, List.not_mem_nil, or_false, List.mem_replicate] at hv
  rcases hv with (rfl | rfl | rfl | rfl) | ⟨_, rfl⟩ <;> rfl)
def tz : Array Value := (tvals 0 0).toArray
theorem tz_lit : tz = #[Value.int IntKind.i64 0, Value.int IntKind.i64 0, Value.slice none 0 0, Value.int IntKind.i64 0, Value.pointer none, Value.pointer none, Value.pointer none, Value.pointer none, Value.pointer none, Value.pointer none, Value.pointer none, Value.pointer none, Value.pointer none, Value.pointer none, Value.pointer none, Value.pointer none, Value.pointer none, Value.pointer none, Value.pointer none, Value.pointer none, Value.pointer none, Value.pointer none, Value.pointer none, Value.pointer none, Value.pointer none, Value.pointer none, Value.pointer none, Value.pointer none, Value.pointer none, Value.pointer none, Value.pointer none, Value.pointer none, Value.pointer none, Value.pointer none, Value.pointer none, Value.pointer none, Value.pointer none, Value.pointer none, Value.pointer none, Value.pointer none, Value.pointer none, Value.pointer none, Value.pointer none, Value.pointer none, Value.pointer none, Value.pointer none, Value.pointer none, Value.pointer none, Value.pointer none, Value.pointer none, Value.pointer none, Value.pointer none, Value.pointer none, Value.pointer none, Value.pointer none, Value.pointer none, Value.pointer none, Value.pointer none, Value.pointer none, Value.pointer none, Value.pointer none, Value.pointer none] := rfl
theorem size63 : (Try.prog.info? 63).map (·.size) = some 62 := by kernel_rfl

/-- How far the sum has come. -/
structure Part (w wr : World) (n0 bt : Nat) (r e : Int) : Prop where
  bel : Below w.heap.size w wr
  c0 : wr.cell? ⟨bt, 0, none⟩ = some (.int .i64 r)
  f0 : wr.frozen? ⟨bt, 0, none⟩ = false
  c1 : wr.cell? ⟨bt, 1, none⟩ = some (.int .i64 e)
  f1 : wr.frozen? ⟨bt, 1, none⟩ = false
  rest : ∀ k, 2 ≤ k → k < 62 → wr.cell? ⟨bt, k, none⟩ = (tvals 0 0)[k]?
  res : wr.there n0 0 62

theorem Part.drewN {w wr : World} {n0 bt : Nat} {r e : Int} (h : Part w wr n0 bt r e) (q : Nat) : Part w (wr.drewN q) n0 bt r e :=
  ⟨⟨h.bel.os, h.bel.tape, h.bel.output, h.bel.size, h.bel.block⟩, h.c0, h.f0, h.c1, h.f1, h.rest, h.res⟩
theorem Part.step {w wr : World} {n0 bt : Nat} {r e : Int} (h : Part w wr n0 bt r e) (hb : w.heap.size ≤ bt) (hn : n0 ≠ bt) (r' e' : Int) :
    Part w ((wr.setCell ⟨bt, 0, none⟩ (.int .i64 r')).setCell ⟨bt, 1, none⟩ (.int .i64 e')) n0 bt r' e' := by
  refine ⟨(h.bel.setCell hb _).setCell hb _, ?_, ?_, ?_, ?_, fun k h2 h62 => ?_, fun j hj => ⟨?_, ?_⟩⟩
  · rw [World.cell?_setCell_other _ _ _ _ (cell_neq (by omega))]
    exact World.cell?_setCell_same _ _ _ h.c0
  · rw [World.frozen?_setCell, World.frozen?_setCell]
    exact h.f0
  · exact World.cell?_setCell_same _ _ _ ((World.cell?_setCell_other _ _ _ _ (cell_neq (by omega))).trans h.c1)
  · rw [World.frozen?_setCell, World.frozen?_setCell]
    exact h.f1
  · rw [World.cell?_setCell_other _ _ _ _ (cell_neq (by omega)), World.cell?_setCell_other _ _ _ _ (cell_neq (by omega))]
    exact h.rest k h2 h62
  · rw [World.cell?_setCell_other _ _ _ _ (blk_neq (fun e => hn e.symm)), World.cell?_setCell_other _ _ _ _ (blk_neq (fun e => hn e.symm))]
    exact (h.res j hj).1
  · rw [World.frozen?_setCell, World.frozen?_setCell]
    exact (h.res j hj).2
theorem Part.cells {w wr : World} {n0 bt : Nat} {r e : Int} (h : Part w wr n0 bt r e) : ∀ j v, (tvals r e)[j]? = some v → wr.cell? ⟨bt, 0 + j, none⟩ = some v := fun j v hv => by
  have hj : j < 62 := by
    have := (List.getElem?_eq_some_iff.1 hv).1
    rw [tvals_len] at this
    exact this
  rw [Nat.zero_add]
  by_cases h0 : j = 0
  · subst h0
    rw [h.c0, ← hv]
    rfl
  · by_cases h1 : j = 1
    · subst h1
      rw [h.c1, ← hv]
      rfl
    · rw [h.rest j (by omega) hj, ← hv]
      exact tvals_rest _ _ _ _ (by omega)

theorem Below.setCells {n : Nat} {w : World} {b : Nat} (hb : n ≤ b) : ∀ (vs : List Value) (o : Nat) (w' : World), Below n w w' → Below n w (w'.setCells b o vs)
  | [], _, _, h => h
  | v :: r, o, _, h => Below.setCells hb r (o + 1) _ (h.setCell hb v)

theorem Part.start (w : World) : Part w ((w.alloc (.cells tz 63)).alloc (.cells tz 63)) w.heap.size (w.heap.size + 1) 0 0 := by
  have e : (w.alloc (.cells tz 63)).heap.size = w.heap.size + 1 := by simp
  have hc : ∀ k, ((w.alloc (.cells tz 63)).alloc (.cells tz 63)).cell? ⟨w.heap.size + 1, k, none⟩ = tz[k]? := fun k => by
    rw [← e, World.cell?_alloc_new]
  have hf : ∀ k, ((w.alloc (.cells tz 63)).alloc (.cells tz 63)).frozen? ⟨w.heap.size + 1, k, none⟩ = false := fun k => by
    rw [← e]
    exact World.frozen?_alloc_new _ _ _ _
  refine ⟨((Below.refl _ _).alloc (Nat.le_refl _) _).alloc (by simp) _, hc 0, hf 0, hc 1, hf 1, fun k h2 h62 => ?_, fun j hj => ⟨?_, ?_⟩⟩
  · rw [hc k]
    simp [tz]
  · have : (w.alloc (.cells tz 63)).cell? ⟨w.heap.size, j, none⟩ = some ((tvals 0 0)[j]'(by rw [tvals_len]; exact hj)) := by
      rw [World.cell?_alloc_new]
      simp [tz]
    rw [Nat.zero_add, (World.grownBy_alloc (w.alloc (.cells tz 63)) _ none).cell this (by simp)]
    rfl
  · rw [Nat.zero_add, World.frozen?_alloc_old _ _ _ (by simp)]
    exact World.frozen?_alloc_new _ _ _ _

end Go.Proofs.Qxb6608868a
