/-
  Seat b6614579a: implies (36) with no 'through', ZZImplies (13).
-/
import Derived.Test.Qxb6614579aFollows
import Derived.Laws.EntriesVeiled
namespace Go.Proofs.Qxb6614579a
open Go.RowKit Go.Maps

/-- The call answers whether P. -/
def Tells (e : Ending) (P : Prop) : Prop := ∃ b : Bool, e = .returned (.bool b) ∧ (b = true ↔ P)
theorem Tells.mk {b : Bool} {P : Prop} (h : b = true ↔ P) : Tells (.returned (.bool b)) P := ⟨b, rfl, h⟩

theorem bel_alloc {a w : World} (h : Below a.heap.size a w) (o : Obj) : Below a.heap.size a (w.alloc o) := h.alloc h.size o

theorem no_edges {E : ByteArray → ByteArray → Option Int} {goal : ByteArray → Bool} {node : ByteArray} {sq : Int} (h : ∀ v, E node v = none) : (false = true ↔ Hits E goal node sq) :=
  Fol.tells ((Mid.start E goal node sq (fun _ => false) (fun _ => false) (fun v x hv => by rw [h v] at hv; cases hv)).done (fun _ => rfl))

theorem Lin.alloc {w : World} {L B n : Nat} {g : ByteArray → Option Nat} {E : ByteArray → ByteArray → Option Int} (h : Lin w L B n g E) (o : Obj) : Lin (w.alloc o) L B n g E :=
  h.grown (World.grownBy_alloc w o none) (fun j hj => by cases hj)

theorem size_zero {D : DataW Unit} (hD : IsMap D) (h : Maps.size D = 0) (s : Lit) : Maps.has D s = false := by
  obtain ⟨es, rfl⟩ := hD
  have : es = [] := List.length_eq_zero_iff.1 h
  subst this
  rfl

theorem cell_new (w : World) (v : Value) (t : TypeId) (k : Nat) (hk : w.heap.size = k) : (w.alloc (.cells #[v] t)).cell? ⟨k, 0, none⟩ = some v := by
  subst hk
  simp

theorem env_made (w : World) (L B V n : Nat) (thv : Value) (g : ByteArray → Option Nat) (E : ByteArray → ByteArray → Option Int) (f : ByteArray → Option Int) (node : ByteArray) (sq : Int) (hlin : Lin w L B n g E) (hB : B ≤ w.heap.size) (hver : Ver w V n f) :
    let W := (((((((w.alloc (Obj.cells #[Value.map (some L)] 28)).alloc (Obj.cells #[Value.map (some V)] 31)).alloc (Obj.cells #[Value.string node, Value.int IntKind.u64 sq] 34)).alloc (Obj.cells #[thv] 70)).alloc (Obj.map #[] 0)).alloc (Obj.cells #[Value.map (some (w.heap.size + 1 + 1 + 1 + 1))] 40)).alloc
      (Obj.cells #[Value.func (Fn.func 41) #[] #[.pointer (some ⟨w.heap.size, 0, none⟩), .pointer (some ⟨w.heap.size + 1 + 1 + 1 + 1 + 1, 0, none⟩), .pointer (some ⟨w.heap.size + 1, 0, none⟩), .pointer (some ⟨w.heap.size + 1 + 1 + 1, 0, none⟩), .pointer (some ⟨w.heap.size + 1 + 1 + 1 + 1 + 1 + 1, 0, none⟩)]] 49))
    Env W w.heap.size (w.heap.size + 1 + 1 + 1 + 1 + 1) (w.heap.size + 1) (w.heap.size + 1 + 1 + 1) (w.heap.size + 1 + 1 + 1 + 1 + 1 + 1) L B (w.heap.size + 1 + 1 + 1 + 1) V n thv g E f ∧ SetIs W (w.heap.size + 1 + 1 + 1 + 1) 0 (fun _ => false) ∧ Below w.heap.size w W := by
  intro W
  have hvl := hver.lt
  have hll := hlin.lt
  refine ⟨⟨?_, ?_, ?_, ?_, ?_, ?_, ?_, by omega, by omega, by omega, by omega, by omega, by omega, .inr (by omega)⟩, ?_, ?_⟩
  · exact cell_alloc (cell_alloc (cell_alloc (cell_alloc (cell_alloc (cell_alloc (cell_new _ _ _ _ (by simp)) _) _) _) _) _) _
  · exact cell_alloc (cell_new _ _ _ _ (by simp)) _
  · exact cell_alloc (cell_alloc (cell_alloc (cell_alloc (cell_alloc (cell_new _ _ _ _ (by simp)) _) _) _) _) _
  · exact cell_alloc (cell_alloc (cell_alloc (cell_new _ _ _ _ (by simp)) _) _) _
  · exact cell_new _ _ _ _ (by simp)
  · exact ((((((hver.alloc _).alloc _).alloc _).alloc _).alloc _).alloc _).alloc _
  · exact ((((((hlin.alloc _).alloc _).alloc _).alloc _).alloc _).alloc _).alloc _
  · have h := SetIs.made ((((w.alloc (Obj.cells #[Value.map (some L)] 28)).alloc (Obj.cells #[Value.map (some V)] 31)).alloc (Obj.cells #[Value.string node, Value.int IntKind.u64 sq] 34)).alloc (Obj.cells #[thv] 70))
    have e : ((((w.alloc (Obj.cells #[Value.map (some L)] 28)).alloc (Obj.cells #[Value.map (some V)] 31)).alloc (Obj.cells #[Value.string node, Value.int IntKind.u64 sq] 34)).alloc (Obj.cells #[thv] 70)).heap.size = w.heap.size + 1 + 1 + 1 + 1 := by simp
    rw [e] at h
    exact (h.alloc _).alloc _
  · exact bel_alloc (bel_alloc (bel_alloc (bel_alloc (bel_alloc (bel_alloc (bel_alloc (Below.refl _ _) _) _) _) _) _) _) _

set_option maxHeartbeats 1000000 in
theorem implies0 (L B V n : Nat) (g : ByteArray → Option Nat) (E : ByteArray → ByteArray → Option Int) (f : ByteArray → Option Int) (ts : List ByteArray) (hT : ts.length ≤ 4096) (hE : ∀ u v x, E u v = some x → v ∈ ts) (node : ByteArray) (sq : Int) (w : World) (hnode : node.size ≤ maxLen) (hlin : Lin w L B n g E) (hB : B ≤ w.heap.size) (hver : Ver w V n f) :
    Calls Try.prog 36 #[.map (some L), .map (some V), .agg #[.string node, .int .u64 sq], .nilFunc] w fun e w' => Tells e (Hits E (fun t => decide (0 < (f t).getD 0)) node sq) ∧ Below w.heap.size w w' := by
  have hmm := @run_makeMap Try.prog
  have hmf : ∀ (fn : Fn) (first cap : Array Value) (w : World), (Instr.makeFunc fn first cap).run Try.prog w = .ok (.func fn first cap) w := fun _ _ _ _ => rfl
  have hl4 := fun o1 o2 o3 o4 => ((((hlin.alloc o1).alloc o2).alloc o3).alloc o4).out.look hnode
  rcases hgn : g node with _ | b
  · rw [hgn] at hl4
    have hlen := fun w ty => Maps.len_nil (P := Try.prog) (w := w) Try.underlying30 ty
    have HT : Hid (false = true ↔ Hits E (fun t => decide (0 < (f t).getD 0)) node sq) := no_edges (hlin.no node hgn)
    clear hlin hver hE hgn
    go_enter Try.func36, Try.ntmps36
    go_wp2
    go_ret
    exact ⟨Tells.mk HT.out, bel_alloc (bel_alloc (bel_alloc (bel_alloc (Below.refl _ _) _) _) _) _⟩
  · rw [hgn] at hl4
    obtain ⟨D, hown, hD, hr⟩ := (hlin.at' node b hgn).2.2
    have hown4 := fun o1 o2 o3 o4 => (((hown.alloc o1).alloc o2).alloc o3).alloc o4
    by_cases hz : Maps.size D = 0
    · have hz' : ((Maps.size D : Int) == 0) = true := by rw [hz]; rfl
      have HT : Hid (false = true ↔ Hits E (fun t => decide (0 < (f t).getD 0)) node sq) := no_edges (fun v => by
        have h1 := (hr v).1
        rw [size_zero hD hz] at h1
        cases he : E node v with
        | none => rfl
        | some q => rw [he] at h1; cases h1)
      clear hlin hver hE hgn hr hz hD
      go_enter Try.func36, Try.ntmps36
      go_wp2_with (first
        | (at_len; refine wpList_len_own _ rfl _ 30 rfl 9 24 Try.underlying30 _ b n D rfl (hown4 _ _ _ _) ?_)
        | fail)
      go_ret
      exact ⟨Tells.mk HT.out, bel_alloc (bel_alloc (bel_alloc (bel_alloc (Below.refl _ _) _) _) _) _⟩
    · have hz' : ((Maps.size D : Int) == 0) = false := by rw [beq_eq_false_iff_ne]; omega
      have HL := hid hlin
      have HV := hid hver
      clear hlin hver hr hz hD
      go_enter Try.func36, Try.ntmps36
      go_wp2_with (first
        | (at_len; refine wpList_len_own _ rfl _ 30 rfl 9 24 Try.underlying30 _ b n D rfl (hown4 _ _ _ _) ?_)
        | fail)
      obtain ⟨env, hset, hbel⟩ := env_made w L B V n .nilFunc g E f node sq HL.out hB HV.out
      refine (follows _ _ _ _ _ L B _ V n g E f ts 4096 (Nat.le_refl _) hE (cnt ts (fun _ => false)) node sq (fun _ => false) 0 _ hnode env hset (by have := cnt_all ts (fun _ => false); omega) (Nat.le_refl _)).mono ?_
      rintro e w9 ⟨b9, Y, c9, rfl, hg9, -, -, hfol⟩
      have HT : Hid (b9 = true ↔ Hits E (fun t => decide (0 < (f t).getD 0)) node sq) := hfol.tells
      have HB : Hid (Below w.heap.size w w9) := hbel.grown hg9 hbel.size (fun j hj => by cases hj; omega)
      clear env hset hbel hg9 hfol
      go_wp2
      go_ret
      exact ⟨Tells.mk HT.out, HB.out⟩

theorem zzImplies (L B V n : Nat) (g : ByteArray → Option Nat) (E : ByteArray → ByteArray → Option Int) (f : ByteArray → Option Int) (ts : List ByteArray) (hT : ts.length ≤ 4096) (hE : ∀ u v x, E u v = some x → v ∈ ts) (node : ByteArray) (sq : Int) (w : World) (hnode : node.size ≤ maxLen) (hlin : Lin w L B n g E) (hB : B ≤ w.heap.size) (hver : Ver w V n f) :
    Calls Try.prog 13 #[.map (some L), .map (some V), .agg #[.string node, .int .u64 sq]] w fun e w' => Tells e (Hits E (fun t => decide (0 < (f t).getD 0)) node sq) ∧ Below w.heap.size w w' := by
  have HL := hid hlin
  have HV := hid hver
  clear hlin hver
  go_enter Try.func13, Try.ntmps13
  go_wp2_with fail
  refine (implies0 L B V n g E f ts hT hE node sq _ hnode (HL.out.alloc _) (by simp; omega) (HV.out.alloc _)).mono ?_
  rintro e w9 ⟨⟨b9, rfl, ht⟩, hb⟩
  have HT := hid ht
  have HB : Hid (Below w.heap.size w w9) := (bel_alloc (Below.refl _ _) _).trans (hb.mono (by simp))
  clear ht hb
  go_wp2
  go_ret
  exact ⟨Tells.mk HT.out, HB.out⟩

end Go.Proofs.Qxb6614579a
