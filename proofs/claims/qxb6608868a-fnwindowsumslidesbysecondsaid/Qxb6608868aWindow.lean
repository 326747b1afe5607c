/-
  Seat b6608868a: ZZnewWindow (17), ZZsetBucket (18).
-/
import Derived.Test.Qxb6608868aSum
import Derived.Deep.WholeRow
namespace Go.Proofs.Qxb6608868a
open Go.RowKit

/-- An empty bucket's cells. -/
def bk0 : List Value := .int .i64 0 :: tvals 0 0
theorem bk0_len : bk0.length = 63 := by simp [bk0, tvals_len]
def win0 (o : Int) : List Value := .int .i64 o :: (List.replicate 10 bk0).flatten

theorem flat_at (l : List Value) : ∀ (n i k : Nat), i < n → k < l.length → ((List.replicate n l).flatten)[i * l.length + k]? = l[k]?
  | n + 1, 0, k, _, hk => by
    rw [List.replicate_succ, List.flatten_cons, List.getElem?_append_left (by omega)]
    congr 1
    omega
  | n + 1, i + 1, k, hi, hk => by
    rw [List.replicate_succ, List.flatten_cons, List.getElem?_append_right (by rw [Nat.succ_mul]; omega), ← flat_at l n i k (by omega) hk]
    congr 1
    rw [Nat.succ_mul]
    omega
theorem win0_at (o : Int) (i k : Nat) (hi : i < 10) (hk : k < 63) : (win0 o)[1 + i * 63 + k]? = bk0[k]? := by
  have := flat_at bk0 10 i k hi (by rw [bk0_len]; exact hk)
  rw [bk0_len] at this
  rw [← this]
  rw [show 1 + i * 63 + k = (i * 63 + k) + 1 by omega]
  rfl

theorem info68 : (Try.prog.info? 68).map (fun i => (i.zero, i.size)) = some (some (.agg (win0 0).toArray), 631) := by kernel_rfl
theorem zero68 (w : World) : (zeroValue 68).run Try.prog w = .ok (.agg (win0 0).toArray) w := (zero_of_info info68).1 w
theorem set0 (o : Int) : ((win0 0).toArray).setIfInBounds 0 (.int .i64 o) = (win0 o).toArray := by
  rw [List.setIfInBounds_toArray]
  rfl

theorem bk0_grp {g : Nat} (h : g < 58) : bk0[5 + g]? = some (.pointer none) := by
  rw [show 5 + g = g + 5 by omega]
  show (List.replicate 58 (Value.pointer none))[g]? = _
  rw [List.getElem?_replicate, if_pos h]

theorem Win.fresh (w : World) (o : Int) : Win (w.alloc (.cells (win0 o).toArray 68)) w.heap.size o (fun _ => 0) (fun _ => 0) (fun _ => 0) := by
  have c : ∀ k, (w.alloc (.cells (win0 o).toArray 68)).cell? ⟨w.heap.size, k, none⟩ = (win0 o)[k]? := fun k => by
    rw [World.cell?_alloc_new]
    simp
  have f : ∀ k, (w.alloc (.cells (win0 o).toArray 68)).frozen? ⟨w.heap.size, k, none⟩ = false := fun k => World.frozen?_alloc_new _ _ _ _
  refine ⟨by simp, c 0, fun i hi => ⟨?_, f _⟩, fun i hi => ⟨?_, f _⟩, fun i hi => ⟨?_, f _⟩, fun i hi => ?_, fun i g hi hg => ?_⟩
  · rw [c]
    exact win0_at o i 0 hi (by omega)
  · rw [c]
    exact win0_at o i 1 hi (by omega)
  · rw [c]
    exact win0_at o i 2 hi (by omega)
  · rw [c]
    exact win0_at o i 3 hi (by omega)
  · rw [c, Nat.add_assoc (1 + i * 63) 5 g, win0_at o i (5 + g) hi (by omega)]
    exact bk0_grp hg

set_option maxHeartbeats 1000000 in
set_option maxRecDepth 100000 in
theorem newWindow (o : Int) (w : World) :
    Calls Try.prog 17 #[.int .i64 o] w fun e w' => e = .returned (.pointer (some ⟨w.heap.size, 0, none⟩)) ∧ Win w' w.heap.size o (fun _ => 0) (fun _ => 0) (fun _ => 0) ∧ Below w.heap.size w w' := by
  obtain ⟨zw, hzw⟩ : ∃ zw, zw = (win0 0).toArray := ⟨_, rfl⟩
  have hz : ∀ w, (zeroValue 68).run Try.prog w = .ok (.agg zw) w := by rw [hzw]; exact zero68
  have hne : ¬ zw = #[] := by rw [hzw]; intro h; have := congrArg Array.size h; simp [win0] at this
  have hs : zw.setIfInBounds 0 (.int .i64 o) = (win0 o).toArray := by rw [hzw]; exact set0 o
  obtain ⟨ow, how⟩ : ∃ ow, ow = (win0 o).toArray := ⟨_, rfl⟩
  rw [← how] at hs
  have HW := hid how
  clear hzw how
  go_enter Try.func17, Try.ntmps17
  go_wp2_with fail
  go_ret
  refine ⟨rfl, ?_, (Below.refl _ _).alloc (Nat.le_refl _) _⟩
  rw [HW.out]
  exact Win.fresh w o

theorem Win.set {w : World} {b : Nat} {o : Int} {S R E : Nat → Int} (h : Win w b o S R E) {i : Nat} (hi : i < 10) (s r e : Int) :
    Win (((w.setCell ⟨b, 1 + i * 63, none⟩ (.int .i64 s)).setCell ⟨b, 1 + i * 63 + 1, none⟩ (.int .i64 r)).setCell ⟨b, 1 + i * 63 + 2, none⟩ (.int .i64 e)) b o (upd S i s) (upd R i r) (upd E i e) := by
  have f : ∀ k, (((w.setCell ⟨b, 1 + i * 63, none⟩ (.int .i64 s)).setCell ⟨b, 1 + i * 63 + 1, none⟩ (.int .i64 r)).setCell ⟨b, 1 + i * 63 + 2, none⟩ (.int .i64 e)).frozen? ⟨b, k, none⟩ = w.frozen? ⟨b, k, none⟩ := fun k => by
    rw [World.frozen?_setCell, World.frozen?_setCell, World.frozen?_setCell]
  have c : ∀ k, k ≠ 1 + i * 63 → k ≠ 1 + i * 63 + 1 → k ≠ 1 + i * 63 + 2 → (((w.setCell ⟨b, 1 + i * 63, none⟩ (.int .i64 s)).setCell ⟨b, 1 + i * 63 + 1, none⟩ (.int .i64 r)).setCell ⟨b, 1 + i * 63 + 2, none⟩ (.int .i64 e)).cell? ⟨b, k, none⟩ = w.cell? ⟨b, k, none⟩ := fun k h0 h1 h2 => by
    rw [World.cell?_setCell_other _ _ _ _ (cell_neq (by omega)), World.cell?_setCell_other _ _ _ _ (cell_neq (by omega)), World.cell?_setCell_other _ _ _ _ (cell_neq (by omega))]
  refine ⟨by simp; exact h.lt, ?_, fun j hj => ⟨?_, ?_⟩, fun j hj => ⟨?_, ?_⟩, fun j hj => ⟨?_, ?_⟩, fun j hj => ?_, fun j g hj hg => ?_⟩
  · rw [c 0 (by omega) (by omega) (by omega)]
    exact h.org
  · by_cases ej : j = i
    · subst ej
      rw [upd_same, World.cell?_setCell_other _ _ _ _ (cell_neq (by omega)), World.cell?_setCell_other _ _ _ _ (cell_neq (by omega))]
      exact World.cell?_setCell_same _ _ _ (h.slot j hj).1
    · rw [upd_other _ _ ej, c _ (by omega) (by omega) (by omega)]
      exact (h.slot j hj).1
  · rw [f]
    exact (h.slot j hj).2
  · by_cases ej : j = i
    · subst ej
      rw [upd_same, World.cell?_setCell_other _ _ _ _ (cell_neq (by omega))]
      exact World.cell?_setCell_same _ _ _ ((World.cell?_setCell_other _ _ _ _ (cell_neq (by omega))).trans (h.req j hj).1)
    · rw [upd_other _ _ ej, c _ (by omega) (by omega) (by omega)]
      exact (h.req j hj).1
  · rw [f]
    exact (h.req j hj).2
  · by_cases ej : j = i
    · subst ej
      rw [upd_same]
      exact World.cell?_setCell_same _ _ _ ((World.cell?_setCell_other _ _ _ _ (cell_neq (by omega))).trans ((World.cell?_setCell_other _ _ _ _ (cell_neq (by omega))).trans (h.err j hj).1))
    · rw [upd_other _ _ ej, c _ (by omega) (by omega) (by omega)]
      exact (h.err j hj).1
  · rw [f]
    exact (h.err j hj).2
  · rw [c _ (by omega) (by omega) (by omega)]
    exact h.sts j hj
  · rw [c _ (by omega) (by omega) (by omega)]
    exact h.grp j g hj hg

set_option maxHeartbeats 1000000 in
theorem setBucket (b : Nat) (o : Int) (S R E : Nat → Int) (i : Nat) (hi : i < 10) (s r e : Int) (w : World) (h : Win w b o S R E) :
    Calls Try.prog 18 #[.pointer (some ⟨b, 0, none⟩), .int .i64 i, .int .i64 s, .int .i64 r, .int .i64 e] w fun x w' => x = .returned (.tuple #[]) ∧ Win w' b o (upd S i s) (upd R i r) (upd E i e) ∧ ∀ n, n ≤ b → Below n w w' := by
  have HF := hid (h.set hi s r e)
  obtain ⟨c1, f1⟩ := h.slot i hi
  obtain ⟨c2, f2⟩ := h.req i hi
  obtain ⟨c3, f3⟩ := h.err i hi
  have ik : (i : Int) < 10 := by omega
  have ik0 : 0 ≤ (i : Int) := by omega
  clear h
  go_enter Try.func18, Try.ntmps18
  go_wp2_with fail
  go_end0
  exact ⟨rfl, HF.out, fun n hn => (((Below.refl _ _).setCell hn _).setCell hn _).setCell hn _⟩

end Go.Proofs.Qxb6608868a
