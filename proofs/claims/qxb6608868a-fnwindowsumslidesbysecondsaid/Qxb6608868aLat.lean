/-
  Seat b6608868a: the counts of latencies in memory ('Lat'); ZZnewLatencies (8), addToBin (26), ZZaddToBin (9).
-/
import Derived.Test.Qxb6608868aSort
import Derived.Test.Qxb6608868aMid
import Derived.RegionTactic
import Derived.BigRegion
import Derived.Deep.Cut
import Derived.Deep.CutRange
namespace Go.Proofs.Qxb6608868a
open Go.RowKit

/-- The address of group x's array. -/
def gptr (o : Option Nat) : Value := .pointer (o.map fun x => ⟨x, 0, none⟩)

/-- Block b is a 'latencies': its count c, its groups' arrays in the blocks G, its bins' counts C. -/
structure Lat (w : World) (b : Nat) (c : Int) (G : Nat → Option Nat) (C : Nat → Int) : Prop where
  lt : b < w.heap.size
  cc : w.cell? ⟨b, 0, none⟩ = some (.int .i64 c) ∧ w.frozen? ⟨b, 0, none⟩ = false
  gp : ∀ g, g < 58 → w.cell? ⟨b, 1 + g, none⟩ = some (gptr (G g)) ∧ w.frozen? ⟨b, 1 + g, none⟩ = false
  row : ∀ g x, g < 58 → G g = some x → x ≠ b ∧ x < w.heap.size ∧ RowF w x 64 (fun i => .int .i64 (C (64 * g + i)))
  nil : ∀ g, g < 58 → G g = none → ∀ i, i < 64 → C (64 * g + i) = 0
  inj : ∀ g g' x, g < 58 → g' < 58 → G g = some x → G g' = some x → g = g'

def nil58 : Array Value := #[.int .i64 0] ++ Array.replicate 58 (.pointer none)
theorem nil58_at (g : Nat) (h : g < 58) : nil58[1 + g]? = some (.pointer none) := by
  unfold nil58
  rw [Array.getElem?_append_right (by simp)]
  simp only [List.size_toArray, List.length_cons, List.length_nil]
  rw [show 1 + g - (0 + 1) = g by omega]
  simp [h]

set_option maxRecDepth 100000 in
theorem newLat (w : World) :
    Calls Try.prog 8 #[] w fun e w' => e = .returned (.pointer (some ⟨w.heap.size, 0, none⟩)) ∧ Lat w' w.heap.size 0 (fun _ => none) (fun _ => 0) ∧ Below w.heap.size w w' := by
  go_enter Try.func8, Try.ntmps8
  go_wp2
  go_ret
  have e : ∀ o, (w.alloc o).heap.size = w.heap.size + 1 := by simp
  refine ⟨rfl, ⟨by rw [e]; omega, ⟨World.cell?_alloc_new _ _ _ _, World.frozen?_alloc_new _ _ _ _⟩, fun g hg => ?_, fun g x _ h => (by cases h), fun _ _ _ _ _ => rfl, fun _ _ _ _ _ h _ => (by cases h)⟩, (Below.refl _ _).alloc (Nat.le_refl _) _⟩
  refine ⟨?_, World.frozen?_alloc_new _ _ _ _⟩
  rw [World.cell?_alloc_new]
  exact nil58_at g hg

def z64 : Array Value := Array.replicate 64 (Value.int IntKind.i64 0)
theorem z64_lit : z64 = #[Value.int IntKind.i64 0, Value.int IntKind.i64 0, Value.int IntKind.i64 0, Value.int IntKind.i64 0, Value.int IntKind.i64 0, Value.int IntKind.i64 0, Value.int IntKind.i64 0, Value.int IntKind.i64 0, Value.int IntKind.i64 0, Value.int IntKind.i64 0, Value.int IntKind.i64 0, Value.int IntKind.i64 0, Value.int IntKind.i64 0, Value.int IntKind.i64 0, Value.int IntKind.i64 0, Value.int IntKind.i64 0, Value.int IntKind.i64 0, Value.int IntKind.i64 0, Value.int IntKind.i64 0, Value.int IntKind.i64 0, Value.int IntKind.i64 0, Value.int IntKind.i64 0, Value.int IntKind.i64 0, Value.int IntKind.i64 0, Value.int IntKind.i64 0, Value.int IntKind.i64 0, Value.int IntKind.i64 0, Value.int IntKind.i64 0, Value.int IntKind.i64 0, Value.int IntKind.i64 0, Value.int IntKind.i64 0, Value.int IntKind.i64 0, Value.int IntKind.i64 0, Value.int IntKind.i64 0, Value.int IntKind.i64 0, Value.int IntKind.i64 0, Value.int IntKind.i64 0, Value.int IntKind.i64 0, Value.int IntKind.i64 0, Value.int IntKind.i64 0, Value.int IntKind.i64 0, Value.int IntKind.i64 0, Value.int IntKind.i64 0, Value.int IntKind.i64 0, Value.int IntKind.i64 0, Value.int IntKind.i64 0, Value.int IntKind.i64 0, Value.int IntKind.i64 0, Value.int IntKind.i64 0, Value.int IntKind.i64 0, Value.int IntKind.i64 0, Value.int IntKind.i64 0, Value.int IntKind.i64 0, Value.int IntKind.i64 0, Value.int IntKind.i64 0, Value.int IntKind.i64 0, Value.int IntKind.i64 0, Value.int IntKind.i64 0, Value.int IntKind.i64 0, Value.int IntKind.i64 0, Value.int IntKind.i64 0, Value.int IntKind.i64 0, Value.int IntKind.i64 0, Value.int IntKind.i64 0] := rfl
theorem z64_at (i : Nat) (h : i < 64) : z64[i]? = some (Value.int .i64 0) := by unfold z64; simp [h]

/-- Nothing but block b and the arrays G has turned, and new blocks. -/
structure Only (w w' : World) (b : Nat) (G : Nat → Option Nat) : Prop where
  os : w'.os = w.os
  tape : w'.tape = w.tape
  output : w'.output = w.output
  size : w.heap.size ≤ w'.heap.size
  block : ∀ j, j < w.heap.size → j ≠ b → (∀ g, g < 58 → G g ≠ some j) → w'.heap[j]? = w.heap[j]?

theorem cell_neq {b : Nat} {i j : Nat} (h : i ≠ j) : (⟨b, i, none⟩ : Addr) ≠ ⟨b, j, none⟩ := fun e => by cases e; exact h rfl
theorem blk_neq {b c : Nat} {i j : Nat} (h : b ≠ c) : (⟨b, i, none⟩ : Addr) ≠ ⟨c, j, none⟩ := fun e => by cases e; exact h rfl

theorem Lat.grow {w : World} {b : Nat} {c : Int} {G : Nat → Option Nat} {C : Nat → Int} (h : Lat w b c G C) {g0 : Nat} (hg0 : g0 < 58) (hg : G g0 = none) :
    Lat ((w.alloc (.cells z64 73)).setCell ⟨b, 1 + g0, none⟩ (.pointer (some ⟨w.heap.size, 0, none⟩))) b c (fun g => if g = g0 then some w.heap.size else G g) C := by
  have hb := h.lt
  have ha : ∀ (a : Addr) v, w.cell? a = some v → (w.alloc (.cells z64 73)).cell? a = some v := fun a v hv => (World.grownBy_alloc w _ none).cell hv (by simp)
  have hfa : ∀ (a : Addr), a.block < w.heap.size → (w.alloc (.cells z64 73)).frozen? a = w.frozen? a := fun a hlt => World.frozen?_alloc_old _ _ _ (by omega)
  refine ⟨by simp; omega, ⟨?_, ?_⟩, fun g hg58 => ⟨?_, ?_⟩, fun g x hg58 hx => ?_, fun g hg58 hn i hi => ?_, fun g g' x h1 h2 hx hx' => ?_⟩
  · rw [World.cell?_setCell_other _ _ _ _ (cell_neq (by omega))]
    exact ha _ _ h.cc.1
  · rw [World.frozen?_setCell, hfa ⟨b, 0, none⟩ hb]
    exact h.cc.2
  · by_cases e : g = g0
    · subst e
      rw [if_pos rfl]
      exact World.cell?_setCell_same _ _ _ (ha _ _ (h.gp g hg58).1)
    · rw [if_neg e, World.cell?_setCell_other _ _ _ _ (cell_neq (by omega))]
      exact ha _ _ (h.gp g hg58).1
  · rw [World.frozen?_setCell, hfa ⟨b, 1 + g, none⟩ hb]
    exact (h.gp g hg58).2
  · by_cases e : g = g0
    · subst e
      rw [if_pos rfl] at hx
      cases hx
      refine ⟨by omega, by simp, fun i hi => ⟨?_, ?_⟩⟩
      · rw [World.cell?_setCell_other _ _ _ _ (blk_neq (by omega)), World.cell?_alloc_new, z64_at i hi]; show _ = some (Value.int .i64 (C (64 * g + i))); rw [h.nil g hg58 hg i hi]
      · rw [World.frozen?_setCell]
        exact World.frozen?_alloc_new _ _ _ _
    · rw [if_neg e] at hx
      obtain ⟨h1, h2, h3⟩ := h.row g x hg58 hx
      refine ⟨h1, by simp; omega, fun i hi => ⟨?_, ?_⟩⟩
      · rw [World.cell?_setCell_other _ _ _ _ (blk_neq (fun e => h1 e.symm))]
        exact ha _ _ (h3 i hi).1
      · rw [World.frozen?_setCell, hfa ⟨x, i, none⟩ h2]
        exact (h3 i hi).2
  · by_cases e : g = g0
    · rw [if_pos e] at hn; cases hn
    · rw [if_neg e] at hn
      exact h.nil g hg58 hn i hi
  · by_cases e : g = g0
    · by_cases e' : g' = g0
      · rw [e, e']
      · rw [if_pos e] at hx
        rw [if_neg e'] at hx'
        have := (h.row g' x h2 hx').2.1
        cases hx
        omega
    · by_cases e' : g' = g0
      · rw [if_neg e] at hx
        rw [if_pos e'] at hx'
        have := (h.row g x h1 hx).2.1
        cases hx'
        omega
      · rw [if_neg e] at hx
        rw [if_neg e'] at hx'
        exact h.inj g g' x h1 h2 hx hx'

theorem Lat.addOld {w : World} {b : Nat} {c : Int} {G : Nat → Option Nat} {C : Nat → Int} (h : Lat w b c G C) {k : Nat} (hk : k < 3712) {x : Nat} (hg : G (k / 64) = some x) (m : Int) :
    Lat (((w.setCell ⟨x, k % 64, none⟩ (.int .i64 (C k + m))).setCell ⟨b, 0, none⟩ (.int .i64 (c + m))).drew) b (c + m) G (upd C k (C k + m)) := by
  obtain ⟨hxb, hxl, hrow⟩ := h.row (k / 64) x (by omega) hg
  refine ⟨by simp; exact h.lt, ⟨?_, ?_⟩, fun g hg58 => ⟨?_, ?_⟩, fun g y hg58 hy => ?_, fun g hg58 hn i hi => ?_, h.inj⟩
  · show World.cell? (World.setCell _ _ _) _ = _
    exact World.cell?_setCell_same _ _ _ ((World.cell?_setCell_other _ _ _ _ (blk_neq hxb)).trans h.cc.1)
  · show World.frozen? (World.setCell _ _ _) _ = _
    rw [World.frozen?_setCell, World.frozen?_setCell]
    exact h.cc.2
  · show World.cell? (World.setCell _ _ _) _ = _
    rw [World.cell?_setCell_other _ _ _ _ (cell_neq (by omega)), World.cell?_setCell_other _ _ _ _ (blk_neq hxb)]
    exact (h.gp g hg58).1
  · show World.frozen? (World.setCell _ _ _) _ = _
    rw [World.frozen?_setCell, World.frozen?_setCell]
    exact (h.gp g hg58).2
  · obtain ⟨h1, h2, h3⟩ := h.row g y hg58 hy
    refine ⟨h1, by simp; exact h2, fun i hi => ⟨?_, ?_⟩⟩
    · show World.cell? (World.setCell _ _ _) _ = _
      rw [World.cell?_setCell_other _ _ _ _ (blk_neq (fun e => h1 e.symm))]
      show _ = some (Value.int .i64 (upd C k (C k + m) (64 * g + i)))
      by_cases e : 64 * g + i = k
      · have eg : g = k / 64 := by omega
        have ei : i = k % 64 := by omega
        rw [e, upd_same]
        rw [eg] at hy
        rw [hy] at hg
        cases hg
        rw [ei]
        exact World.cell?_setCell_same _ _ _ (hrow (k % 64) (by omega)).1
      · rw [upd_other _ _ e]
        have hne : (⟨x, k % 64, none⟩ : Addr) ≠ ⟨y, i, none⟩ := fun e1 => by
          cases e1
          have := h.inj g (k / 64) _ hg58 (by omega) hy hg
          omega
        rw [World.cell?_setCell_other _ _ _ _ hne]
        exact (h3 i hi).1
    · show World.frozen? (World.setCell _ _ _) _ = _
      rw [World.frozen?_setCell, World.frozen?_setCell]
      exact (h3 i hi).2
  · rw [upd_other]
    · exact h.nil g hg58 hn i hi
    · intro e
      have eg : g = k / 64 := by omega
      rw [eg, hg] at hn
      cases hn

theorem Only.set {w w' : World} {b : Nat} {G : Nat → Option Nat} (h : Only w w' b G) {p : Addr} (hp : p.block = b ∨ w.heap.size ≤ p.block ∨ ∃ g, g < 58 ∧ G g = some p.block) (v : Value) : Only w (w'.setCell p v) b G :=
  ⟨h.os, h.tape, h.output, by simp; exact h.size, fun j h1 h2 h3 => (Below.heap_setCell _ _ _ _ (by
    rcases hp with e | e | ⟨g, hg, e⟩
    · omega
    · omega
    · intro e1; exact h3 g hg (by rw [e, e1]))).trans (h.block j h1 h2 h3)⟩
theorem Only.refl (w : World) (b : Nat) (G : Nat → Option Nat) : Only w w b G := ⟨rfl, rfl, rfl, Nat.le_refl _, fun _ _ _ _ => rfl⟩
theorem Only.drew {w w' : World} {b : Nat} {G : Nat → Option Nat} (h : Only w w' b G) : Only w w'.drew b G := ⟨h.os, h.tape, h.output, h.size, h.block⟩
theorem Only.alloc {w w' : World} {b : Nat} {G : Nat → Option Nat} (h : Only w w' b G) (o : Obj) : Only w (w'.alloc o) b G :=
  ⟨h.os, h.tape, h.output, by simp; have := h.size; omega, fun j h1 h2 h3 => (Below.heap_alloc _ _ _ (by have := h.size; omega)).trans (h.block j h1 h2 h3)⟩

/-- The arrays of G' are those of G or new since n. -/
def More (n : Nat) (G G' : Nat → Option Nat) : Prop := ∀ g x, g < 58 → G' g = some x → G g = some x ∨ n ≤ x

set_option maxHeartbeats 1000000 in
theorem addToBin (b : Nat) (c : Int) (G : Nat → Option Nat) (C : Nat → Int) (k : Nat) (hk : k < 3712) (m : Int) (w : World) (hL : Lat w b c G C) (hc0 : 0 ≤ c) (hc1 : c ≤ 1000000) (hC0 : 0 ≤ C k) (hC1 : C k ≤ 1000000) (hm0 : 0 ≤ m) (hm1 : m ≤ 1000000) :
    Calls Try.prog 26 #[.pointer (some ⟨b, 0, none⟩), .int .i64 k, .int .i64 m] w fun e w' => e = .returned (.tuple #[]) ∧ ∃ G', Lat w' b (c + m) G' (upd C k (C k + m)) ∧ More w.heap.size G G' ∧ Only w w' b G := by
  have hk' : (k : Int) ≤ 3711 := by omega
  have hbl := hL.lt
  have cc := hL.cc.1
  have cf := hL.cc.2
  have gc := (hL.gp (k / 64) (by omega)).1
  have gf := (hL.gp (k / 64) (by omega)).2
  rcases hg : G (k / 64) with _ | x
  · rw [hg] at gc
    have gc' : w.cell? ⟨b, 1 + k / 64, none⟩ = some (.pointer none) := gc
    have gA : ∀ o, (w.alloc o).cell? ⟨b, 1 + k / 64, none⟩ = some (.pointer none) := fun o => (World.grownBy_alloc w o none).cell gc' (by simp)
    have gB : ∀ o, (w.alloc o).frozen? ⟨b, 1 + k / 64, none⟩ = false := fun o => (World.frozen?_alloc_old _ _ _ (by simp; have := hL.lt; omega)).trans gf
    have HL := hid (hL.grow (g0 := k / 64) (by omega) hg)
    have HG := hid hg
    obtain ⟨y, hCk⟩ : ∃ y, C k = y := ⟨_, rfl⟩
    have HCk := hid hCk
    rw [hCk] at hC0 hC1 ⊢
    clear hL gc hg hCk
    go_enter Try.func26, Try.ntmps26
    go_upto_region 3 with fail
    rw [← z64_lit]
    obtain ⟨W, hW⟩ : ∃ W, W = (w.alloc (.cells z64 73)).setCell ⟨b, 1 + k / 64, none⟩ (.pointer (some ⟨w.heap.size, 0, none⟩)) := ⟨_, rfl⟩
    rw [← World.setCell_alloc_past _ _ _ _ hbl]
    rw [← hW] at HL
    rw [← hW]
    have HO : Hid (Only w W b G) := by
      show Only _ _ _ _
      rw [hW]
      exact ((Only.refl w b G).alloc _).set (.inl rfl) _
    have hsz : w.heap.size < W.heap.size := by rw [hW]; simp
    clear hW gA gB gc' gf cc cf
    have cc := HL.out.cc.1
    have cf := HL.out.cc.2
    have hgg : (fun g => if g = k / 64 then some w.heap.size else G g) (k / 64) = some w.heap.size := if_pos rfl
    have gc : W.cell? ⟨b, 1 + k / 64, none⟩ = some (.pointer (some ⟨w.heap.size, 0, none⟩)) := by
      have := (HL.out.gp (k / 64) (by omega)).1
      rw [if_pos rfl] at this
      exact this
    obtain ⟨hxb, hxl, hrow⟩ := HL.out.row (k / 64) w.heap.size (by omega) hgg
    have rc : W.cell? ⟨w.heap.size, k % 64, none⟩ = some (.int .i64 (C k)) := by
      have := (hrow (k % 64) (by omega)).1
      rw [this]
      show some (Value.int .i64 (C (64 * (k / 64) + k % 64))) = _
      rw [Nat.div_add_mod]
    have rf := (hrow (k % 64) (by omega)).2
    have hF := HL.out.addOld hk hgg m
    rw [HCk.out] at hF rc
    have HF := hid hF
    clear hrow hgg hF
    go_wp2
    go_region
    all_goals
      go_wp2
      go_end0
      refine ⟨rfl, _, HF.out, fun g x hg58 hx => ?_, ((HO.out.set (.inr (.inl (Nat.le_refl _))) _).set (.inl rfl) _).drew⟩
      dsimp only at hx
      by_cases e : g = k / 64
      · rw [if_pos e] at hx; cases hx; right; exact Nat.le_refl _
      · rw [if_neg e] at hx; exact .inl hx
  · rw [hg] at gc
    obtain ⟨hxb, hxl, hrow⟩ := hL.row (k / 64) x (by omega) hg
    have rc : w.cell? ⟨x, k % 64, none⟩ = some (.int .i64 (C k)) := by
      have := (hrow (k % 64) (by omega)).1
      rw [this]
      show some (Value.int .i64 (C (64 * (k / 64) + k % 64))) = _
      rw [Nat.div_add_mod]
    have rf := (hrow (k % 64) (by omega)).2
    have gc' : w.cell? ⟨b, 1 + k / 64, none⟩ = some (.pointer (some ⟨x, 0, none⟩)) := gc
    have HF := hid (hL.addOld hk hg m)
    have HO : Hid (∃ g, g < 58 ∧ G g = some x) := ⟨k / 64, by omega, hg⟩
    clear hL gc hrow hg
    generalize C k = y at rc hC0 hC1 HF ⊢
    go_enter Try.func26, Try.ntmps26
    go_wp2
    go_region
    all_goals
      go_wp2
      go_end0
      exact ⟨rfl, G, HF.out, fun g y _ hy => .inl hy, (((Only.refl _ _ _).set (.inr (.inr HO.out)) _).set (.inl rfl) _).drew⟩

theorem zzAdd (b : Nat) (c : Int) (G : Nat → Option Nat) (C : Nat → Int) (k : Nat) (hk : k < 3712) (m : Int) (w : World) (hL : Lat w b c G C) (hc0 : 0 ≤ c) (hc1 : c ≤ 1000000) (hC0 : 0 ≤ C k) (hC1 : C k ≤ 1000000) (hm0 : 0 ≤ m) (hm1 : m ≤ 1000000) :
    Calls Try.prog 9 #[.pointer (some ⟨b, 0, none⟩), .int .i64 k, .int .i64 m] w fun e w' => e = .returned (.tuple #[]) ∧ ∃ G', Lat w' b (c + m) G' (upd C k (C k + m)) ∧ More w.heap.size G G' ∧ Only w w' b G := by
  go_enter Try.func9, Try.ntmps9
  go_wp2_with fail
  refine (addToBin b c G C k hk m _ hL hc0 hc1 hC0 hC1 hm0 hm1).mono ?_
  rintro e w1 ⟨rfl, hx⟩
  have HX := hid hx
  clear hx hL
  go_wp2_with fail
  go_end0
  exact ⟨rfl, HX.out⟩

end Go.Proofs.Qxb6608868a
