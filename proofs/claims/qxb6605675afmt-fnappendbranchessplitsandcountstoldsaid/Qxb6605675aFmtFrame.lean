/-
  Seat b6605675aF: from the row's reading of a []string ¦ []Branch to what the walks take.
-/
import Derived.Test.Qxb6605675aFmtBase
import Derived.ProofKit
import Derived.ChangeOld
import Derived.SliceStrings
import Derived.Deep.Slices
namespace Go.Proofs.Qxb6605675aFmt
open Go.ChangeShapes Go.WideShapes Go.ChangeAt Go.RowKit

theorem own : ownKnob Tryf.prog.godebug = none := by kernel_rfl
theorem laidOut : laidOutB Tryf.pinned.checked.prog = true := by kernel_rfl
theorem cells9 : Tryf.prog.cellsOf 9 = 1 := by kernel_rfl
theorem cells42 : Tryf.prog.cellsOf 42 = 1 := by kernel_rfl
theorem cells44 : Tryf.prog.cellsOf 44 = 5 := by kernel_rfl

theorem block_lt {w : World} {b off : Nat} {v : Value} (h : w.cell? ⟨b, off, none⟩ = some v) : b < w.heap.size := by
  by_cases hlt : b < w.heap.size
  · exact hlt
  · have e : w.heap[b]? = none := Array.getElem?_eq_none (by omega)
    simp [World.cell?, e] at h

theorem strs_of {H : Type} {enc : TypeId × Value → H} {W : World} {a : Option Addr} {len cap : Nat} {d : DataW H} {p : List MemPlace} (h : DataW.Trod enc Tryf.prog W 0 (fun _ => true) true 22 (.slice a len cap) d p) :
    ∃ ss : List ByteArray, ss.length = len ∧ Strs W.heap.size W a ss := by
  obtain ⟨fuel, hf⟩ := h
  rcases open_strings Tryf.underlying22 Tryf.underlying9 cells9 hf with ⟨hcs, _⟩ | ⟨x, l, c, ss, hcs, _, hl, hm, hz, _, hcell, hwz⟩
  · simp [Value.cells] at hcs
    obtain ⟨rfl, rfl, rfl⟩ := hcs
    exact ⟨[], rfl, fun _ h => (by cases h), Nat.zero_le _, fun h => (by cases h)⟩
  · simp [Value.cells] at hcs
    obtain ⟨rfl, rfl, rfl⟩ := hcs
    have hz' : ss.length = cap := by simpa using hz
    have e : (ss.take len).length = len := by rw [List.length_take]; omega
    refine ⟨ss.take len, e, fun s hs => hwz s (List.mem_of_mem_take hs), by omega, fun hp => ?_⟩
    obtain ⟨b, off, spot⟩ := x
    have hspot : spot = none := by simpa [Addr.add] using World.cell?_spot (hcell 0 (by omega))
    subst hspot
    have hc : ∀ j, j < (ss.take len).length → W.cell? ⟨b, off + j, none⟩ = some (.string ((ss.take len).getD j ByteArray.empty)) := fun j hj => by
      have h1 := hcell j (by omega)
      rw [Go.WideShapes.add_plain] at h1
      rw [h1]
      simp only [List.getD, List.getElem?_take]
      rw [if_pos (by omega)]
    exact ⟨b, off, rfl, block_lt (hc 0 hp), hc⟩

set_option maxRecDepth 100000 in
/-- One element: five cells, five fields. -/
theorem br_of {H : Type} {enc : TypeId × Value → H} {W : World} {n : Nat} {x : Addr} {y : DataW H × List MemPlace} {cs : List Value} (h1 : W.cells? 0 x 5 = some cs) (h2 : DataW.trod enc Tryf.prog W 0 (fun _ => true) true n 44 cs = some y) :
    ∃ z : Br, z.Ok ∧ x.spot = none ∧ BrAt W x.block x.off z := by
  obtain ⟨_, hlen, hcell⟩ := World.cells?_some h1
  obtain ⟨xs, k, hk, hxy, _, hxl, hf⟩ := DataW.trod_struct Tryf.underlying44 h2
  have hxl' : xs.length = 5 := hxl
  match xs, hxl', cs, hlen with
  | [y0, y1, y2, y3, y4], _, [v0, v1, v2, v3, v4], _ =>
    have g0 := hf 0 _ rfl
    have g1 := hf 1 _ rfl
    have g2 := hf 2 _ rfl
    have g3 := hf 3 _ rfl
    have g4 := hf 4 _ rfl
    simp [cells9, cells42] at g0 g1 g2 g3 g4
    obtain ⟨s0, e0, _, z0⟩ := DataW.trod_string Tryf.underlying9 g0
    obtain ⟨s1, e1, _, z1⟩ := DataW.trod_int Tryf.underlying42 g1
    obtain ⟨s2, e2, _, z2⟩ := DataW.trod_string Tryf.underlying9 g2
    obtain ⟨s3, e3, _, z3⟩ := DataW.trod_string Tryf.underlying9 g3
    obtain ⟨s4, e4, _, z4⟩ := DataW.trod_string Tryf.underlying9 g4
    simp only [List.cons.injEq, and_true] at e0 e1 e2 e3 e4
    subst e0 e1 e2 e3 e4
    obtain ⟨b, off, spot⟩ := x
    have c0 := hcell 0 (by omega)
    have c1 := hcell 1 (by omega)
    have c2 := hcell 2 (by omega)
    have c3 := hcell 3 (by omega)
    have c4 := hcell 4 (by omega)
    have hspot : spot = none := by simpa [Addr.add] using World.cell?_spot c0
    subst hspot
    rw [Go.WideShapes.add_plain] at c0 c1 c2 c3 c4
    exact ⟨⟨s0, s1, s2, s3, s4⟩, ⟨z0, z1, z2, z3, z4⟩, rfl, ⟨c0, c1, c2, c3, c4⟩⟩

theorem brs_of {H : Type} {enc : TypeId × Value → H} {W : World} {a : Option Addr} {len cap : Nat} {d : DataW H} {p : List MemPlace} (h : DataW.Trod enc Tryf.prog W 0 (fun _ => true) true 23 (.slice a len cap) d p) :
    ∃ bs : List Br, bs.length = len ∧ Brs W.heap.size W a bs := by
  obtain ⟨fuel, hf⟩ := h
  rcases Go.Deep.open_slice Tryf.underlying23 hf with ⟨hcs, _⟩ | ⟨x, l, c, m, n, D, Pl, hcs, _, hl, hm, hmm, _, hx⟩
  · simp [Value.cells] at hcs
    obtain ⟨rfl, rfl, rfl⟩ := hcs
    exact ⟨[], rfl, fun _ h => (by cases h), Nat.zero_le _, fun h => (by cases h)⟩
  · simp [Value.cells] at hcs
    obtain ⟨rfl, rfl, rfl⟩ := hcs
    have hmm' : m = cap := by simpa using hmm
    have each : ∀ i, i < len → ∃ z : Br, z.Ok ∧ (x.add (i * 5)).spot = none ∧ BrAt W (x.add (i * 5)).block (x.add (i * 5)).off z := fun i hi => by
      obtain ⟨cs', h1, h2⟩ := hx i (by omega)
      rw [cells44] at h1
      exact br_of h1 h2
    obtain ⟨f, hf'⟩ := @Go.Deep.choose_lt Br ⟨br0⟩ len _ each
    have hg : ∀ j, j < len → ((List.range len).map f).getD j br0 = f j := fun j hj => by simp [List.getD, hj]
    refine ⟨(List.range len).map f, by simp, fun z hz => ?_, by simp; omega, fun hp => ?_⟩
    · obtain ⟨i, hi, rfl⟩ := List.mem_map.1 hz
      exact (hf' i (List.mem_range.1 hi)).1
    · have hp' : 0 < len := by simpa using hp
      obtain ⟨b, off, spot⟩ := x
      have hspot : spot = none := by simpa [Addr.add] using (hf' 0 hp').2.1
      subst hspot
      have hc : ∀ j, j < len → BrAt W b (off + j * 5) (f j) := fun j hj => by
        have := (hf' j hj).2.2
        rw [Go.WideShapes.add_plain] at this
        exact this
      refine ⟨b, off, rfl, block_lt (hc 0 hp').host, fun j hj => ?_⟩
      have hj' : j < len := by simpa using hj
      rw [hg j hj']
      exact hc j hj'

end Go.Proofs.Qxb6605675aFmt
