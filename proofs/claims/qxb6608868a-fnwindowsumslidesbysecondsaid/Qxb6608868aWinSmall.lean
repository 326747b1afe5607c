/-
  Seat b6608868a: slotAt (33), zzCounts (21), zzSlotIs (25), ZZtallyCounts (22), zzValsOK (16), merge (29) out of a 'latencies' with no group.
-/
import Derived.Test.Qxb6608868aRank
namespace Go.Proofs.Qxb6608868a
open Go.RowKit

def inWin (s k : Int) : Bool := decide (s - 10 < k ∧ k ≤ s)
theorem inWin_true {s k : Int} (h : s - 10 < k ∧ k ≤ s) : inWin s k = true := decide_eq_true h
theorem inWin_false {s k : Int} (h : ¬ (s - 10 < k ∧ k ≤ s)) : inWin s k = false := decide_eq_false h
def isSlot (s k : Int) : Bool := decide (k = s)
theorem isSlot_true {s k : Int} (h : k = s) : isSlot s k = true := decide_eq_true h
theorem isSlot_false {s k : Int} (h : ¬ k = s) : isSlot s k = false := decide_eq_false h
theorem ret_bool {a b : Bool} (h : a = b) : Ending.returned (.bool a) = .returned (.bool b) := by rw [h]

theorem slotAt (o n : Int) (ho : 0 ≤ o) (hn : o ≤ n) (hn1 : n ≤ 9223372036854775807) (w : World) :
    Calls Try.prog 33 #[.int .i64 o, .int .i64 n] w fun e w' => e = .returned (.int .i64 ((n - o) / 1000000000)) ∧ w' = w := by
  have hd : Int.tdiv (n - o) 1000000000 = (n - o) / 1000000000 := Int.tdiv_eq_ediv_of_nonneg (by omega)
  go_enter Try.func33, Try.ntmps33
  go_wp2
  go_ret
  exact ⟨rfl, rfl⟩

theorem counts (k d : Int) (hk0 : -9223372036854775808 ≤ k) (hk1 : k ≤ 9223372036854775807) (hd0 : 0 ≤ d) (hd1 : d ≤ 9223372036854775807) (w : World) :
    Calls Try.prog 21 #[.int .i64 k, .int .i64 d] w fun e w' => e = .returned (.bool (inWin (d / 1000000000) k)) ∧ w' = w := by
  by_cases h1 : k ≤ -10
  · rw [inWin_false (by omega)]
    go_enter Try.func21, Try.ntmps21
    go_wp2
    go_ret
    exact ⟨rfl, rfl⟩
  by_cases h2 : 9223372036 < k
  · rw [inWin_false (by omega)]
    go_enter Try.func21, Try.ntmps21
    go_wp2
    go_ret
    exact ⟨rfl, rfl⟩
  by_cases h0 : 0 < k
  · by_cases h3 : d < k * 1000000000
    · rw [inWin_false (by omega)]
      go_enter Try.func21, Try.ntmps21
      go_wp2
      go_ret
      exact ⟨rfl, rfl⟩
    · by_cases h4 : 9223372027 ≤ k
      · rw [inWin_true (by omega)]
        go_enter Try.func21, Try.ntmps21
        go_wp2
        go_ret
        exact ⟨rfl, rfl⟩
      · by_cases h5 : d < (k + 10) * 1000000000
        · rw [inWin_true (by omega)]
          go_enter Try.func21, Try.ntmps21
          go_wp2
          go_ret
          exact ⟨rfl, rfl⟩
        · rw [inWin_false (by omega)]
          go_enter Try.func21, Try.ntmps21
          go_wp2
          go_ret
          exact ⟨rfl, rfl⟩
  · have h4 : ¬ 9223372027 ≤ k := by omega
    by_cases h5 : d < (k + 10) * 1000000000
    · rw [inWin_true (by omega)]
      go_enter Try.func21, Try.ntmps21
      go_wp2
      go_ret
      exact ⟨rfl, rfl⟩
    · rw [inWin_false (by omega)]
      go_enter Try.func21, Try.ntmps21
      go_wp2
      go_ret
      exact ⟨rfl, rfl⟩

theorem slotIs (k x : Int) (hk0 : -9223372036854775808 ≤ k) (hk1 : k ≤ 9223372036854775807) (hd0 : -9000000000 ≤ x) (hd1 : x ≤ 9223372036854775807) (w : World) :
    Calls Try.prog 25 #[.int .i64 k, .int .i64 x] w fun e w' => e = .returned (.bool (isSlot (x / 1000000000) k)) ∧ w' = w := by
  by_cases h1 : k < -9
  · rw [isSlot_false (by omega)]
    go_enter Try.func25, Try.ntmps25
    go_wp2
    go_ret
    exact ⟨rfl, rfl⟩
  by_cases h2 : 9223372036 < k
  · rw [isSlot_false (by omega)]
    go_enter Try.func25, Try.ntmps25
    go_wp2
    go_ret
    exact ⟨rfl, rfl⟩
  by_cases h3 : x < k * 1000000000
  · rw [isSlot_false (by omega)]
    go_enter Try.func25, Try.ntmps25
    go_wp2
    go_ret
    exact ⟨rfl, rfl⟩
  by_cases h4 : k = 9223372036
  · rw [isSlot_true (by omega)]
    go_enter Try.func25, Try.ntmps25
    go_wp2
    go_ret
    exact ⟨rfl, rfl⟩
  by_cases h5 : x < (k + 1) * 1000000000
  · rw [isSlot_true (by omega)]
    go_enter Try.func25, Try.ntmps25
    go_wp2
    go_ret
    exact ⟨rfl, rfl⟩
  · rw [isSlot_false (by omega)]
    go_enter Try.func25, Try.ntmps25
    go_wp2
    go_ret
    exact ⟨rfl, rfl⟩

theorem tallyCounts (b : Nat) (r e : Int) (w : World) (hr : w.cell? ⟨b, 0, none⟩ = some (.int .i64 r)) (he : w.cell? ⟨b, 1, none⟩ = some (.int .i64 e)) :
    Calls Try.prog 22 #[.pointer (some ⟨b, 0, none⟩)] w fun x w' => x = .returned (.tuple #[.int .i64 r, .int .i64 e]) ∧ ∃ q, w' = w.drewN q := by
  go_enter Try.func22, Try.ntmps22
  go_wp2_with fail
  go_quiet (fail)
  go_wp2_with fail
  go_ret2
  exact ⟨rfl, nq, rfl⟩

/-- An [10]int64 by value. -/
def arr10 (V : Nat → Int) : Array Value := ((List.range 10).map fun j => Value.int .i64 (V j)).toArray
theorem arr10_size (V : Nat → Int) : (arr10 V).size = 10 := by simp [arr10]
theorem arr10_at (V : Nat → Int) {j : Nat} (h : j < 10) : (arr10 V)[j]? = some (.int .i64 (V j)) := by simp [arr10, h]

/-- What zzValsOK tells. -/
def Vals (V : Nat → Int) (e : Ending) : Prop := e = .returned (.bool false) ∨ (e = .returned (.bool true) ∧ ∀ j, j < 10 → 0 ≤ V j ∧ V j ≤ 1099511627776)

set_option maxHeartbeats 1000000 in
theorem valsOK (V : Nat → Int) (hV : ∀ j, j < 10 → -9223372036854775808 ≤ V j ∧ V j ≤ 9223372036854775807) (w : World) :
    Calls Try.prog 16 #[.agg (arr10 V)] w fun e w' => Vals V e ∧ w' = w.alloc (.cells (arr10 V) 33) := by
  have hc : ∀ j : Nat, j < 10 → (w.alloc (.cells (arr10 V) 33)).cell? ⟨w.heap.size, j, none⟩ = some (.int .i64 (V j)) := fun j hj => by
    rw [World.cell?_alloc_new]
    exact arr10_at V hj
  have HC := hid hc
  have HV := hid hV
  clear hc hV
  generalize arr10 V = ar at *
  go_enter Try.func16, Try.ntmps16
  go_wp2
  go_loop [3] (fun i => ∃ k : Nat, k ≤ 10 ∧ i = .int .i64 k ∧ ∀ j, j < k → 0 ≤ V j ∧ V j ≤ 1099511627776) (fun i => 10 - (intOf i).toNat)
  case atStart => exact ⟨0, by omega, rfl, fun j hj => (by omega)⟩
  case round =>
    obtain ⟨k, hk, rfl, hpos⟩ := hrel
    have HP := hid hpos
    clear hpos
    by_cases hlt : k < 10
    · have hc := HC.out k hlt
      have hv := HV.out k hlt
      have HX : Hid (0 ≤ V k ∧ V k ≤ 1099511627776 → ∀ j, j < k + 1 → 0 ≤ V j ∧ V j ≤ 1099511627776) := fun h j hj => (by
        by_cases e : j = k
        · rw [e]; exact h
        · exact HP.out j (by omega))
      clear HP
      generalize V k = z at hc hv HX
      obtain ⟨hv0, hv1⟩ := hv
      by_cases hneg : z < 0
      · go_wp2
        go_ret
        exact ⟨.inl rfl, rfl⟩
      · by_cases hbig : 1099511627776 < z
        · go_wp2
          go_ret
          exact ⟨.inl rfl, rfl⟩
        · have HY := hid (HX.out (by omega))
          go_wp2
          go_round
          case rel => exact ⟨k + 1, by omega, by go_num, HY.out⟩
          case measure => simp [intOf]; omega
    · have hk10 : k = 10 := by omega
      have HE : Hid (∀ j, j < 10 → 0 ≤ V j ∧ V j ≤ 1099511627776) := by have := HP.out; rw [hk10] at this; exact this
      clear hk10 HP
      go_wp2
      go_ret
      exact ⟨.inr ⟨rfl, HE.out⟩, rfl⟩

/-- Of a 'latencies' with no group nothing is merged. -/
theorem mergeNil (b off b2 off2 : Nat) (w : World) (h : ∀ g, g < 58 → w.cell? ⟨b2, off2 + 1 + g, none⟩ = some (.pointer none)) :
    Calls Try.prog 29 #[.pointer (some ⟨b, off, none⟩), .pointer (some ⟨b2, off2, none⟩)] w fun e w' => e = .returned (.tuple #[]) ∧ w' = w := by
  have hload : ∀ j v, (gvals (fun _ => none))[j]? = some v → w.cell? ⟨b2, off2 + 1 + j, none⟩ = some v := fun j v hv => by
    have hj : j < 58 := by
      have := (List.getElem?_eq_some_iff.1 hv).1
      rw [gvals_len] at this
      exact this
    rw [gvals_at _ hj] at hv
    cases hv
    exact h j hj
  have hlen : (Try.prog.info? 51).map (·.size) = some (gvals (fun _ => none)).length := by rw [gvals_len]; exact size51
  clear h
  go_enter Try.func29, Try.ntmps29
  go_wp2_with (refine wpList_load_mid rfl 51 _ rfl b2 (off2 + 1) rfl (gvals fun _ => none) _ hload Try.underlying51 rfl hlen ?_)
  clear hload hlen
  go_loop [12] (fun i => ∃ g : Nat, g ≤ 58 ∧ i = .int .i64 g) (fun i => 58 - (intOf i).toNat)
  case atStart => exact ⟨0, by omega, rfl⟩
  case round =>
    obtain ⟨g, hg, rfl⟩ := hrel
    by_cases hlt : g < 58
    · have hix : ∀ w, (Instr.index 51 (.agg (gvals fun _ => none).toArray) (.int .i64 g)).run Try.prog w = .ok (.pointer none) w := index51 (fun _ => none) hlt
      go_wp2
      go_round
      case rel => exact ⟨g + 1, by omega, by go_num⟩
      case measure => simp [intOf]; omega
    · go_wp2
      go_end0
      exact ⟨rfl, rfl⟩

end Go.Proofs.Qxb6608868a
