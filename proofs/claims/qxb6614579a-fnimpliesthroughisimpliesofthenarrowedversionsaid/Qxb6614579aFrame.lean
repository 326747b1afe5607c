/-
  Seat b6614579a: from the row's reading of a []string ¦ []uint64 to what the walks take.
-/
import Derived.Test.Qxb6614579aBase
import Derived.ProofKit
import Derived.OpenShut
import Derived.ShutString
import Derived.ChangeOld
import Derived.SliceStrings
namespace Go.Proofs.Qxb6614579a
open Go.ChangeShapes Go.WideShapes Go.ChangeAt Go.RowKit
open Go.ChangeMaps (open_string shut_string)

theorem own : ownKnob Try.prog.godebug = none := by kernel_rfl
theorem laidOut : laidOutB Try.prog = true := by kernel_rfl

theorem block_lt {w : World} {b off : Nat} {v : Value} (h : w.cell? ⟨b, off, none⟩ = some v) : b < w.heap.size := by
  by_cases hlt : b < w.heap.size
  · exact hlt
  · have e : w.heap[b]? = none := Array.getElem?_eq_none (by omega)
    simp [World.cell?, e] at h

theorem strs_of {H : Type} {enc : TypeId × Value → H} {W : World} {a : Option Addr} {len cap : Nat} {d : DataW H} {p : List MemPlace} (h : DataW.Trod enc Try.prog W 0 (fun _ => true) true 22 (.slice a len cap) d p) :
    ∃ ss : List ByteArray, ss.length = len ∧ Strs W.heap.size W a ss := by
  obtain ⟨fuel, hf⟩ := h
  rcases open_strings Try.underlying22 Try.underlying9 (by kernel_rfl) hf with ⟨hcs, _⟩ | ⟨x, l, c, ss, hcs, _, hl, hm, hz, _, hcell, hwz⟩
  · simp [Value.cells] at hcs
    obtain ⟨rfl, rfl, rfl⟩ := hcs
    exact ⟨[], rfl, by simp, by simp, by simp⟩
  · simp [Value.cells] at hcs
    obtain ⟨rfl, rfl, rfl⟩ := hcs
    have hz' : ss.length = cap := by simpa using hz
    have e : (ss.take len).length = len := by rw [List.length_take]; omega
    refine ⟨ss.take len, e, fun s hs => hwz s (List.mem_of_mem_take hs), by omega, fun hp => ?_⟩
    obtain ⟨b, off, spot⟩ := x
    have hspot : spot = none := by simpa [Addr.add] using World.cell?_spot (hcell 0 (by omega))
    subst hspot
    have hc : ∀ j, j < (ss.take len).length → W.cell? ⟨b, off + j, none⟩ = some (.string ((ss.take len).getD j ByteArray.empty)) := fun j hj => by
      have h1 := hcell j (by omega)
      rw [Go.WideShapes.add_plain] at h1
      rw [h1]
      simp only [List.getD, List.getElem?_take]
      rw [if_pos (by omega)]
    exact ⟨b, off, rfl, block_lt (hc 0 hp), hc⟩

theorem words_of {H : Type} {enc : TypeId × Value → H} {W : World} {a : Option Addr} {len cap : Nat} {d : DataW H} {p : List MemPlace} (h : DataW.Trod enc Try.prog W 0 (fun _ => true) true 23 (.slice a len cap) d p) :
    ∃ zs : List Int, zs.length = len ∧ Words W.heap.size W a zs := by
  obtain ⟨fuel, hf⟩ := h
  rcases open_ints Try.underlying23 Try.underlying24 (by kernel_rfl) hf with ⟨hcs, _⟩ | ⟨x, l, c, ss, hcs, _, hl, hm, hz, _, hcell, hwz⟩
  · simp [Value.cells] at hcs
    obtain ⟨rfl, rfl, rfl⟩ := hcs
    exact ⟨[], rfl, by simp, by simp, by simp⟩
  · simp [Value.cells] at hcs
    obtain ⟨rfl, rfl, rfl⟩ := hcs
    have hz' : ss.length = cap := by simpa using hz
    have e : (ss.take len).length = len := by rw [List.length_take]; omega
    refine ⟨ss.take len, e, fun s hs => hwz s (List.mem_of_mem_take hs), by omega, fun hp => ?_⟩
    obtain ⟨b, off, spot⟩ := x
    have hspot : spot = none := by simpa [Addr.add] using World.cell?_spot (hcell 0 (by omega))
    subst hspot
    have hc : ∀ j, j < (ss.take len).length → W.cell? ⟨b, off + j, none⟩ = some (.int .u64 ((ss.take len).getD j 0)) := fun j hj => by
      have h1 := hcell j (by omega)
      rw [Go.WideShapes.add_plain] at h1
      rw [h1]
      simp only [List.getD, List.getElem?_take]
      rw [if_pos (by omega)]
    exact ⟨b, off, rfl, block_lt (hc 0 hp), hc⟩

end Go.Proofs.Qxb6614579a
