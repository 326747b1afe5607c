/-
  Seat b6608868a: from the row's reading of a []int64 to what the walks take.
-/
import Derived.Test.Qxb6608868aSort
import Derived.ProofKit
import Derived.OpenShut
import Derived.ShutString
import Derived.ChangeOld
import Derived.Below
namespace Go.Proofs.Qxb6608868a
open Go.ChangeShapes Go.WideShapes Go.ChangeAt Go.RowKit

theorem block_lt {w : World} {b off : Nat} {v : Value} (h : w.cell? ⟨b, off, none⟩ = some v) : b < w.heap.size := by
  by_cases hlt : b < w.heap.size
  · exact hlt
  · have e : w.heap[b]? = none := Array.getElem?_eq_none (by omega)
    simp [World.cell?, e] at h

theorem i64_range {v : Int} (h : (Lit.int .i64 v).wf = true) : -9223372036854775808 ≤ v ∧ v ≤ 9223372036854775807 := by
  have := bounds_i64 h
  omega

/-- A slice of int64 that came in. -/
theorem ints_of {w : World} {a : Option Addr} {len cap : Nat} {zs : List Int} (h : (a = none ∧ len = 0 ∧ cap = 0 ∧ zs = []) ∨
  ∃ x, a = some x ∧ len ≤ cap ∧ cap ≤ maxLen ∧ zs.length = cap ∧ (∀ i, i < zs.length → w.cell? (x.add i) = some (.int .i64 (zs.getD i 0))) ∧ ∀ n ∈ zs, (Lit.int .i64 n).wf = true) : Ints w.heap.size w a len (fun j => zs.getD j 0) := by
  rcases h with ⟨rfl, rfl, rfl, rfl⟩ | ⟨x, rfl, hl, hm, hz, hcell, hwz⟩
  · exact ⟨Nat.zero_le _, fun _ h => (by omega), fun h => (by omega)⟩
  · refine ⟨by omega, fun j hj => ?_, fun hp => ?_⟩
    · have hj' : j < zs.length := by omega
      have : zs.getD j 0 = zs[j] := by simp [List.getD, hj']
      show -9223372036854775808 ≤ zs.getD j 0 ∧ zs.getD j 0 ≤ 9223372036854775807
      rw [this]
      exact i64_range (hwz _ (List.getElem_mem hj'))
    · obtain ⟨b, off, spot⟩ := x
      have hspot : spot = none := by simpa [Addr.add] using World.cell?_spot (hcell 0 (by omega))
      subst hspot
      have hc : ∀ j, j < len → w.cell? ⟨b, off + j, none⟩ = some (.int .i64 (zs.getD j 0)) := fun j hj => by
        have h1 := hcell j (by omega)
        rw [Go.WideShapes.add_plain] at h1
        exact h1
      exact ⟨b, off, rfl, block_lt (hc 0 hp), hc⟩

end Go.Proofs.Qxb6608868a
