/-
  Seat b6605675aF: rows of the call's own; cloneWords (8).
-/
import Derived.Test.Qxb6605675aFmtBase
import Derived.OwnWalk
import Derived.OneCell
import Derived.Laws.Cover3
import Derived.Maps.Range
namespace Go.Proofs.Qxb6605675aFmt
open Go.RowKit

theorem row_setCell {w : World} {b i : Nat} {cur : Array Value} {u : Value} {t : TypeId} (h : w.heap[b]? = some (.cells cur t (0, 0))) : (w.setCell ⟨b, i, none⟩ u).heap[b]? = some (.cells (cur.setIfInBounds i u) t (0, 0)) := by
  have hlt := lt_of_block h
  have h' : w.heap[b] = .cells cur t (0, 0) := by simpa [Array.getElem?_eq_getElem hlt] using h
  show (w.heap.modify b _)[b]? = _
  rw [Array.getElem?_eq_getElem (by simpa using hlt), Array.getElem_modify_self, h']
  rfl
theorem row_cell {w : World} {b i : Nat} {cur : Array Value} {t : TypeId} (h : w.heap[b]? = some (.cells cur t (0, 0))) : w.cell? ⟨b, i, none⟩ = cur[i]? := by simp [World.cell?, h]
theorem row_free {w : World} {b i : Nat} {cur : Array Value} {t : TypeId} (h : w.heap[b]? = some (.cells cur t (0, 0))) : w.frozen? ⟨b, i, none⟩ = false := by simp [World.frozen?, h]

def zrow (v : Value) (n : Nat) : Array Value := madeCells #[v] n
theorem zrow_size (v : Value) (n : Nat) : (zrow v n).size = n := by simp [zrow, madeCells]
theorem info9 : (Tryf.prog.info? 9).map (fun i => (i.zero, i.size, i.bytes)) = some (some (.string ByteArray.empty), 1, 16) := by kernel_rfl
theorem make22 (n : Nat) (hn : n ≤ 65536) (w : World) : (Instr.makeSlice 22 (.int .i64 n) (.int .i64 n)).run Tryf.prog w = .ok (.slice (some ⟨w.heap.size, 0, none⟩) n n) (w.alloc (.cells (zrow (.string ByteArray.empty) n) 9)) := by
  obtain ⟨i, h1, h2, h3, h4⟩ := info_parts info9
  have := run_make (P := Tryf.prog) w 22 9 i (.string ByteArray.empty) Tryf.underlying22 h1 h2 .i64 .i64 n n (by omega) (by omega) (by rw [h4]; omega) (by omega)
  rw [this, h3]
  simp [zrow, Value.cells]

/-- Words that the call owns. -/
abbrev OwnW (w : World) (base : Nat) (v : Value) (ss : List ByteArray) : Prop := w.ownsRow base 9 1 v ss.length (ss.map Value.string)

theorem ownW_row {w : World} {base g : Nat} {cur : Array Value} {ss : List ByteArray} (hg : base ≤ g) (h : w.heap[g]? = some (.cells cur 9 (0, 0))) (hm : ss.length ≤ maxLen) (hs : cur.size = ss.length) (hc : ∀ j, j < ss.length → cur[j]? = some (.string (ss.getD j ByteArray.empty))) : OwnW w base (.slice (some ⟨g, 0, none⟩) ss.length ss.length) ss := by
  refine ⟨by simp, .inr ⟨g, ss.length, cur, rfl, hg, h, Nat.le_refl _, hm, by omega, ?_⟩⟩
  apply List.ext_getElem?
  intro j
  by_cases hj : j < ss.length
  · have h1 := hc j hj
    have h2 : cur.toList[j]? = some (.string (ss.getD j ByteArray.empty)) := by simpa using h1
    rw [List.getElem?_take, if_pos (by omega), h2]
    simp [hj]
  · rw [List.getElem?_eq_none (by simp; omega), List.getElem?_eq_none (by simp; omega)]

set_option maxHeartbeats 1000000 in
theorem cloneWords (a : Option Addr) (ss : List ByteArray) (cap : Nat) (w : World) (base B : Nat) (hbase : base ≤ w.heap.size) (hB : B ≤ w.heap.size) (hn : ss.length ≤ 65536) (hs : Strs B w a ss) :
    Calls Tryf.prog 8 #[.slice a ss.length cap] w fun e w' => (∃ v, e = .returned v ∧ OwnW w' base v ss ∧ (∀ k, v.ownBlock = some k → w.heap.size ≤ k)) ∧ Below w.heap.size w w' := by
  have HS := hid hs
  clear hs
  rcases a with _ | ad
  · have hz : ss = [] := by
      by_cases h : 0 < ss.length
      · obtain ⟨b, off, e, _⟩ := HS.out.2.2 h
        cases e
      · exact List.eq_nil_of_length_eq_zero (by omega)
    subst hz
    have hnil : ∀ w, (binOp .eql 22 (.slice none 0 cap) (.slice none 0 0)).run Tryf.prog w = .ok (.bool true) w := fun w => by
      have := run_equal_slice_nil (P := Tryf.prog) w 22 9 none 0 cap Tryf.underlying22
      simp [binOp, this]
    go_enter Tryf.func8, Tryf.ntmps8
    go_wp2
    go_ret
    exact ⟨⟨_, rfl, World.ownsRow_nil _ _ _ _, fun k h => (by cases h)⟩, Below.refl _ _⟩
  · have hnil : ∀ w, (binOp .eql 22 (.slice (some ad) ss.length cap) (.slice none 0 0)).run Tryf.prog w = .ok (.bool false) w := fun w => by
      have := run_equal_slice_nil (P := Tryf.prog) w 22 9 (some ad) ss.length cap Tryf.underlying22
      simp [binOp, this]
    have hmk := make22 ss.length hn
    go_enter Tryf.func8, Tryf.ntmps8
    go_wp2
    clear hnil hmk
    go_loopw [4] (fun i wr => ∃ (k : Nat) (cur : Array Value), k ≤ ss.length ∧ i = .int .i64 k ∧ wr.heap[w.heap.size]? = some (.cells cur 9 (0, 0)) ∧ cur.size = ss.length ∧ (∀ j, j < k → cur[j]? = some (.string (ss.getD j ByteArray.empty))) ∧ Below w.heap.size w wr) (fun i _ => ss.length - (intOf i).toNat)
    case atStart => exact ⟨0, _, Nat.zero_le _, rfl, heap_alloc_new w _, zrow_size _ _, fun j hj => (by omega), (Below.refl _ _).alloc (Nat.le_refl _) _⟩
    case round =>
      obtain ⟨k, cur, hk, rfl, hrow, hsz, hcur, hbel⟩ := hrel
      have HROW := hid hrow
      have HCUR := hid hcur
      have HBEL := hid hbel
      have HSZ := hid hsz
      clear hrow hcur hbel hsz
      by_cases hlt : k < ss.length
      · obtain ⟨b, off, e, hbB, hc⟩ := (HS.out.below (HBEL.out.mono hB)).2.2 (by omega)
        cases e
        have hcx := hc k hlt
        clear hc
        have hsz := HSZ.out
        have c1 : wr.cell? ⟨w.heap.size, k, none⟩ = some (cur[k]'(by omega)) := (row_cell HROW.out).trans (Array.getElem?_eq_getElem (by omega))
        have f1 : wr.frozen? ⟨w.heap.size, k, none⟩ = false := row_free HROW.out
        generalize cur[k]'(by omega) = old at c1
        have HNEW : Hid ((wr.setCell ⟨w.heap.size, k, none⟩ (.string (ss.getD k ByteArray.empty))).heap[w.heap.size]? = some (.cells (cur.setIfInBounds k (.string (ss.getD k ByteArray.empty))) 9 (0, 0)) ∧ (∀ j, j < k + 1 → (cur.setIfInBounds k (.string (ss.getD k ByteArray.empty)))[j]? = some (.string (ss.getD j ByteArray.empty))) ∧ Below w.heap.size w (wr.setCell ⟨w.heap.size, k, none⟩ (.string (ss.getD k ByteArray.empty)))) := by
          refine ⟨row_setCell HROW.out, fun j hj => ?_, HBEL.out.setCell (Nat.le_refl _) _⟩
          by_cases e : j = k
          · subst e
            rw [Array.getElem?_setIfInBounds_self_of_lt (by omega)]
          · rw [Array.getElem?_setIfInBounds_ne (fun h => e h.symm)]
            exact HCUR.out j (by omega)
        clear HROW HCUR HBEL hsz
        obtain ⟨s, hs⟩ : ∃ s, s = ss.getD k ByteArray.empty := ⟨_, rfl⟩
        rw [← hs] at hcx HNEW
        clear hs
        go_wp2_with fail
        go_roundw
        case rel => exact ⟨k + 1, _, by omega, by go_num, HNEW.out.1, (Array.size_setIfInBounds).trans HSZ.out, HNEW.out.2.1, HNEW.out.2.2⟩
        case measure => simp [intOf]; omega
      · have hkn : k = ss.length := by omega
        have HOWN : Hid (OwnW wr base (.slice (some ⟨w.heap.size, 0, none⟩) ss.length ss.length) ss) := ownW_row hbase HROW.out (by unfold maxLen; omega) HSZ.out (fun j hj => HCUR.out j (by omega))
        clear HROW HCUR hkn
        go_wp2_with fail
        go_ret
        exact ⟨⟨_, rfl, HOWN.out, fun k h => (by cases h; exact Nat.le_refl _)⟩, HBEL.out⟩

end Go.Proofs.Qxb6605675aFmt
