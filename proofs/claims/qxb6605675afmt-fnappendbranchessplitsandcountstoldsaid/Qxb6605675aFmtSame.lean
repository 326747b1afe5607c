/-
  Seat b6605675aF: sameWords (13) at one and the same list; ZZnewBranch (26).
-/
import Derived.Test.Qxb6605675aFmtCloneB
import Derived.Deep.QuietTactic
import Derived.BigQuiet
namespace Go.Proofs.Qxb6605675aFmt
open Go.RowKit

/-- The words' cells, whatever their lengths. -/
def WCells (w : World) (a : Option Addr) (ss : List ByteArray) : Prop :=
  0 < ss.length → ∃ b off, a = some ⟨b, off, none⟩ ∧ ∀ j, j < ss.length → w.cell? ⟨b, off + j, none⟩ = some (.string (ss.getD j ByteArray.empty))
theorem Strs.wcells {B : Nat} {w : World} {a : Option Addr} {ss : List ByteArray} (h : Strs B w a ss) : WCells w a ss := fun hp => by
  obtain ⟨b, off, e, _, hc⟩ := h.2.2 hp
  exact ⟨b, off, e, hc⟩
/-- Words that the call owns: the value's form, and its cells. -/
theorem own_form {w : World} {base : Nat} {v : Value} {ss : List ByteArray} (h : OwnW w base v ss) : ∃ aw cap, v = .slice aw ss.length cap ∧ ss.length ≤ cap ∧ WCells w aw ss ∧ ∀ g, aw = some g → g.off = 0 ∧ g.spot = none ∧ base ≤ g.block ∧ g.block < w.heap.size := by
  rcases h.2 with ⟨rfl, h0⟩ | ⟨g, cap, cur, rfl, hb, hg, hle, _, _, htake⟩
  · exact ⟨none, 0, by rw [h0], by omega, fun hp => by omega, fun _ e => by cases e⟩
  · refine ⟨some ⟨g, 0, none⟩, cap, rfl, hle, fun _ => ⟨g, 0, rfl, fun j hj => ?_⟩, fun _ e => by cases e; exact ⟨rfl, rfl, hb, lt_of_block hg⟩⟩
    rw [Nat.zero_add, row_cell hg]
    have h1 : (cur.toList.take (ss.length * 1))[j]? = (ss.map Value.string)[j]? := by rw [htake]
    rw [List.getElem?_take, if_pos (by omega), List.getElem?_map, List.getElem?_eq_getElem hj] at h1
    have h2 : cur[j]? = some (Value.string ss[j]) := by simpa using h1
    rw [h2, List.getD, List.getElem?_eq_getElem hj]
    rfl

set_option maxHeartbeats 1000000 in
theorem sameWords (a a' : Option Addr) (ss : List ByteArray) (cap cap' : Nat) (w : World) (hn : ss.length ≤ 1000000) (hs : WCells w a ss) (hs' : WCells w a' ss) :
    Calls Tryf.prog 13 #[.slice a ss.length cap, .slice a' ss.length cap'] w fun e w' => e = .returned (.bool true) ∧ ∃ q, w' = w.drewN q := by
  have HS := hid hs
  have HS' := hid hs'
  clear hs hs'
  go_enter Tryf.func13, Tryf.ntmps13
  go_wp2
  go_loopw [5] (fun i wr => ∃ k q : Nat, k ≤ ss.length ∧ i = .int .i64 k ∧ wr = w.drewN q) (fun i _ => ss.length - (intOf i).toNat)
  case atStart => exact ⟨0, 0, Nat.zero_le _, rfl, rfl⟩
  case round =>
    obtain ⟨k, q, hk, rfl, hwr⟩ := hrel
    by_cases hlt : k < ss.length
    · obtain ⟨b, off, rfl, hc⟩ := HS.out (by omega)
      obtain ⟨b', off', rfl, hc'⟩ := HS'.out (by omega)
      have c1 : wr.cell? ⟨b, off + k, none⟩ = some (.string (ss.getD k ByteArray.empty)) := by rw [hwr]; exact hc k hlt
      have c2 : wr.cell? ⟨b', off' + k, none⟩ = some (.string (ss.getD k ByteArray.empty)) := by rw [hwr]; exact hc' k hlt
      have ik : (k : Int) < ss.length := by omega
      have ik0 : 0 ≤ (k : Int) := by omega
      have HW := hid hwr
      clear hc hc' hwr
      generalize ss.getD k ByteArray.empty = s at c1 c2
      go_wp2_with fail
      go_quiet (fail)
      go_wp2_with fail
      go_roundw
      case rel => exact ⟨k + 1, q + nq, by omega, by go_num, by rw [HW.out]; exact World.drewN_drewN _ _ _⟩
      case measure => simp [intOf]; omega
    · have HW := hid hwr
      clear hwr
      go_wp2_with fail
      go_ret
      exact ⟨rfl, q, HW.out⟩

set_option maxHeartbeats 1000000 in
theorem newBranch (x : Br) (w : World) :
    Calls Tryf.prog 26 #[.string x.host, .int .u16 x.port, .string x.path, .string x.id, .string x.ident] w fun e w' => e = .returned (.pointer (some ⟨w.heap.size, 0, none⟩)) ∧ w' = w.alloc (.cells #[.string x.host, .int .u16 x.port, .string x.path, .string x.id, .pointer none, .string x.ident, .bool false] 57) := by
  go_enter Tryf.func26, Tryf.ntmps26
  go_wp2
  go_ret
  exact ⟨rfl, rfl⟩

end Go.Proofs.Qxb6605675aFmt
