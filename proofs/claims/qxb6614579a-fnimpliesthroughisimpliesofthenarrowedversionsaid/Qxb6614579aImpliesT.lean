/-
  Seat b6614579a: implies (36) with a 'through' that asks a set, ZZImpliesThrough (17).
-/
import Derived.Test.Qxb6614579aFollowsT
namespace Go.Proofs.Qxb6614579a
open Go.RowKit Go.Maps

theorem block_lt' {w : World} {b off : Nat} {v : Value} (h : w.cell? ⟨b, off, none⟩ = some v) : b < w.heap.size := by
  by_cases hlt : b < w.heap.size
  · exact hlt
  · have e : w.heap[b]? = none := Array.getElem?_eq_none (by omega)
    simp [World.cell?, e] at h

set_option maxHeartbeats 1000000 in
theorem impliesT (L B V n qb Q cq : Nat) (M : ByteArray → Bool) (g : ByteArray → Option Nat) (E : ByteArray → ByteArray → Option Int) (f : ByteArray → Option Int) (ts : List ByteArray) (hT : ts.length ≤ 4096) (hE : ∀ u v x, E u v = some x → v ∈ ts) (node : ByteArray) (sq : Int) (w : World) (hnode : node.size ≤ maxLen) (hlin : Lin w L B n g E) (hB : B ≤ w.heap.size) (hver : Ver w V n f) (hq : w.cell? ⟨qb, 0, none⟩ = some (.map (some Q))) (hQ : SetIs w Q cq M) :
    Calls Try.prog 36 #[.map (some L), .map (some V), .agg #[.string node, .int .u64 sq], .func (.func 37) #[] #[.pointer (some ⟨qb, 0, none⟩)]] w fun e w' => Tells e (Hits E (fun t => decide (0 < (f t).getD 0) && M t) node sq) ∧ Below w.heap.size w w' := by
  have hmm := @run_makeMap Try.prog
  have hmf : ∀ (fn : Fn) (first cap : Array Value) (w : World), (Instr.makeFunc fn first cap).run Try.prog w = .ok (.func fn first cap) w := fun _ _ _ _ => rfl
  have hl4 := fun o1 o2 o3 o4 => ((((hlin.alloc o1).alloc o2).alloc o3).alloc o4).out.look hnode
  rcases hgn : g node with _ | b
  · rw [hgn] at hl4
    have hlen := fun w ty => Maps.len_nil (P := Try.prog) (w := w) Try.underlying30 ty
    have HT : Hid (false = true ↔ Hits E (fun t => decide (0 < (f t).getD 0) && M t) node sq) := no_edges (hlin.no node hgn)
    clear hlin hver hE hgn hq hQ
    go_enter Try.func36, Try.ntmps36
    go_wp2
    go_ret
    exact ⟨Tells.mk HT.out, bel_alloc (bel_alloc (bel_alloc (bel_alloc (Below.refl _ _) _) _) _) _⟩
  · rw [hgn] at hl4
    obtain ⟨D, hown, hD, hr⟩ := (hlin.at' node b hgn).2.2
    have hown4 := fun o1 o2 o3 o4 => (((hown.alloc o1).alloc o2).alloc o3).alloc o4
    by_cases hz : Maps.size D = 0
    · have hz' : ((Maps.size D : Int) == 0) = true := by rw [hz]; rfl
      have HT : Hid (false = true ↔ Hits E (fun t => decide (0 < (f t).getD 0) && M t) node sq) := no_edges (fun v => by
        have h1 := (hr v).1
        rw [size_zero hD hz] at h1
        cases he : E node v with
        | none => rfl
        | some q => rw [he] at h1; cases h1)
      clear hlin hver hE hgn hq hQ hr hz hD
      go_enter Try.func36, Try.ntmps36
      go_wp2_with (first
        | (at_len; refine wpList_len_own _ rfl _ 30 rfl 9 24 Try.underlying30 _ b n D rfl (hown4 _ _ _ _) ?_)
        | fail)
      go_ret
      exact ⟨Tells.mk HT.out, bel_alloc (bel_alloc (bel_alloc (bel_alloc (Below.refl _ _) _) _) _) _⟩
    · have hz' : ((Maps.size D : Int) == 0) = false := by rw [beq_eq_false_iff_ne]; omega
      have HL := hid hlin
      have HV := hid hver
      have HQ := hid hQ
      have hqlt := hQ.lt
      have hqb := block_lt' hq
      have Hq := hid hq
      clear hlin hver hr hz hD hq hQ
      go_enter Try.func36, Try.ntmps36
      go_wp2_with (first
        | (at_len; refine wpList_len_own _ rfl _ 30 rfl 9 24 Try.underlying30 _ b n D rfl (hown4 _ _ _ _) ?_)
        | fail)
      obtain ⟨env, hset, hbel⟩ := env_made w L B V n (.func (.func 37) #[] #[.pointer (some ⟨qb, 0, none⟩)]) g E f node sq HL.out hB HV.out
      refine (followsT _ _ _ _ _ L B _ V n qb Q cq M g E f ts 4096 (Nat.le_refl _) hE (cnt ts (fun _ => false)) node sq (fun _ => false) 0 _ hnode ⟨env, cell_alloc (cell_alloc (cell_alloc (cell_alloc (cell_alloc (cell_alloc (cell_alloc Hq.out _) _) _) _) _) _) _, (((((((HQ.out.alloc _).alloc _).alloc _).alloc _).alloc _).alloc _).alloc _), by omega, by omega⟩ hset (by have := cnt_all ts (fun _ => false); omega) (Nat.le_refl _)).mono ?_
      rintro e w9 ⟨b9, Y, c9, rfl, hg9, -, -, hfol⟩
      have HT : Hid (b9 = true ↔ Hits E (fun t => decide (0 < (f t).getD 0) && M t) node sq) := hfol.tells
      have HB : Hid (Below w.heap.size w w9) := hbel.grown hg9 hbel.size (fun j hj => by cases hj; omega)
      clear env hset hbel hg9 hfol
      go_wp2
      go_ret
      exact ⟨Tells.mk HT.out, HB.out⟩

theorem zzImpliesT (L B V n Q cq : Nat) (M : ByteArray → Bool) (g : ByteArray → Option Nat) (E : ByteArray → ByteArray → Option Int) (f : ByteArray → Option Int) (ts : List ByteArray) (hT : ts.length ≤ 4096) (hE : ∀ u v x, E u v = some x → v ∈ ts) (node : ByteArray) (sq : Int) (w : World) (hnode : node.size ≤ maxLen) (hlin : Lin w L B n g E) (hB : B ≤ w.heap.size) (hver : Ver w V n f) (hQ : SetIs w Q cq M) :
    Calls Try.prog 17 #[.map (some L), .map (some V), .agg #[.string node, .int .u64 sq], .map (some Q)] w fun e w' => Tells e (Hits E (fun t => decide (0 < (f t).getD 0) && M t) node sq) ∧ Below w.heap.size w w' := by
  have hmf : ∀ (fn : Fn) (first cap : Array Value) (w : World), (Instr.makeFunc fn first cap).run Try.prog w = .ok (.func fn first cap) w := fun _ _ _ _ => rfl
  have HL := hid hlin
  have HV := hid hver
  have HQ := hid hQ
  clear hlin hver hQ
  go_enter Try.func17, Try.ntmps17
  go_wp2_with fail
  refine (impliesT L B V n (w.heap.size + 1) Q cq M g E f ts hT hE node sq _ hnode ((HL.out.alloc _).alloc _) (by simp; omega) ((HV.out.alloc _).alloc _) (cell_new _ _ _ _ (by simp)) ((HQ.out.alloc _).alloc _)).mono ?_
  rintro e w9 ⟨⟨b9, rfl, ht⟩, hb⟩
  have HT := hid ht
  have HB : Hid (Below w.heap.size w w9) := (bel_alloc (bel_alloc (Below.refl _ _) _) _).trans (hb.mono (by simp; omega))
  clear ht hb
  go_wp2
  go_ret
  exact ⟨Tells.mk HT.out, HB.out⟩

end Go.Proofs.Qxb6614579a
