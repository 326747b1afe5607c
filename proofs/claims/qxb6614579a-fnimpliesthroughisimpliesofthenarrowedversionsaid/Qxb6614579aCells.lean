/-
  Seat b6614579a: a row of cells of the call's own, as a function of the index; 'make' at n.
-/
import Derived.Test.Qxb6614579aBase
import Derived.Deep.Draws
namespace Go.Proofs.Qxb6614579a
open Go.RowKit Go.Maps

def RowF (w : World) (b n : Nat) (F : Nat → Value) : Prop := ∀ j, j < n → w.cell? ⟨b, j, none⟩ = some (F j) ∧ w.frozen? ⟨b, j, none⟩ = false

theorem RowF.below {w w' : World} {b n B : Nat} {F : Nat → Value} (h : RowF w b n F) (hb : Below B w w') (hB : b < B) : RowF w' b n F := fun j hj =>
  ⟨(hb.cell (p := ⟨b, j, none⟩) hB).trans (h j hj).1, (hb.frozen (p := ⟨b, j, none⟩) hB).trans (h j hj).2⟩
theorem RowF.grown {w w' : World} {b n : Nat} {row : Option Nat} {F : Nat → Value} (h : RowF w b n F) (hg : w.grownBy w' row) (hne : some b ≠ row) (hb : b < w.heap.size) : RowF w' b n F := fun j hj =>
  ⟨hg.cell (h j hj).1 hne, (World.frozen?_of_block (hg.block b hb hne)).trans (h j hj).2⟩
theorem RowF.set {w : World} {b n i : Nat} {F : Nat → Value} (h : RowF w b n F) (hi : i < n) (v : Value) : RowF (w.setCell ⟨b, i, none⟩ v) b n (fun j => if j = i then v else F j) := fun j hj => by
  constructor
  · dsimp only
    by_cases e : j = i
    · subst e
      rw [if_pos rfl]
      exact World.cell?_setCell_same _ _ _ (h j hj).1
    · rw [if_neg e]
      rw [World.cell?_setCell_other _ _ _ _ (by intro e1; cases e1; exact e rfl)]
      exact (h j hj).1
  · rw [World.frozen?_setCell]
    exact (h j hj).2
theorem RowF.drew {w : World} {b n : Nat} {F : Nat → Value} (h : RowF w b n F) : RowF w.drew b n F := h

def zrow (v : Value) (n : Nat) : Array Value := madeCells #[v] n
theorem zrow_at (v : Value) (n j : Nat) (h : j < n) : (zrow v n)[j]? = some v := by
  unfold zrow madeCells
  simp [h, Nat.mod_one]

theorem rowF_made (w : World) (v : Value) (n t : Nat) : RowF (w.alloc (.cells (zrow v n) t)) w.heap.size n (fun _ => v) := fun j hj =>
  ⟨by rw [World.cell?_alloc_new]; exact zrow_at v n j hj, World.frozen?_alloc_new _ _ _ _⟩

theorem info24 : (Try.prog.info? 24).map (fun i => (i.zero, i.size, i.bytes)) = some (some (.int .u64 0), 1, 8) := by kernel_rfl
theorem info4 : (Try.prog.info? 4).map (fun i => (i.zero, i.size, i.bytes)) = some (some (.bool false), 1, 1) := by kernel_rfl

theorem make23 (n : Nat) (hn : n ≤ 4096) (w : World) : (Instr.makeSlice 23 (.int .i64 n) (.int .i64 n)).run Try.prog w = .ok (.slice (some ⟨w.heap.size, 0, none⟩) n n) (w.alloc (.cells (zrow (.int .u64 0) n) 24)) := by
  obtain ⟨i, h1, h2, h3, h4⟩ := info_parts info24
  have := run_make (P := Try.prog) w 23 24 i (.int .u64 0) Try.underlying23 h1 h2 .i64 .i64 n n (by omega) (by omega) (by rw [h4]; omega) (by omega)
  rw [this, h3]
  simp [zrow, Value.cells]
theorem make69 (n : Nat) (hn : n ≤ 4096) (w : World) : (Instr.makeSlice 69 (.int .i64 n) (.int .i64 n)).run Try.prog w = .ok (.slice (some ⟨w.heap.size, 0, none⟩) n n) (w.alloc (.cells (zrow (.bool false) n) 4)) := by
  obtain ⟨i, h1, h2, h3, h4⟩ := info_parts info4
  have := run_make (P := Try.prog) w 69 4 i (.bool false) Try.underlying69 h1 h2 .i64 .i64 n n (by omega) (by omega) (by rw [h4]; omega) (by omega)
  rw [this, h3]
  simp [zrow, Value.cells]

end Go.Proofs.Qxb6614579a
