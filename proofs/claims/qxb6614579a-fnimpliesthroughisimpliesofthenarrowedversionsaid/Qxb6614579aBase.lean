/-
  Seat b6614579a: what a slice of strings or of uint64 that came in is to the walks; the small callees: zzMin2 (19), zzAddWords (34), zzAddStrings (16), zzUnmadeBytes (22).
-/
import Derived.Test.Qxb6614579aRows
import Derived.WalkKit
import Derived.WalkLawsBesides
import Derived.WalkSpells
import Derived.Maps.OwnOps
import Derived.Maps.Views
import Derived.Below
import Derived.Outline
import Derived.LoopTactic
namespace Go.Proofs.Qxb6614579a
open Go.RowKit Go.Maps

/-- A slice of strings below block B. -/
def Strs (B : Nat) (w : World) (a : Option Addr) (ss : List ByteArray) : Prop :=
  (∀ s ∈ ss, s.size ≤ maxLen) ∧ ss.length ≤ maxLen ∧ (0 < ss.length → ∃ b off, a = some ⟨b, off, none⟩ ∧ b < B ∧ ∀ j, j < ss.length → w.cell? ⟨b, off + j, none⟩ = some (.string (ss.getD j ByteArray.empty)))

/-- A slice of uint64 below block B. -/
def Words (B : Nat) (w : World) (a : Option Addr) (zs : List Int) : Prop :=
  (∀ z ∈ zs, (Lit.int .u64 z).wf = true) ∧ zs.length ≤ maxLen ∧ (0 < zs.length → ∃ b off, a = some ⟨b, off, none⟩ ∧ b < B ∧ ∀ j, j < zs.length → w.cell? ⟨b, off + j, none⟩ = some (.int .u64 (zs.getD j 0)))

theorem Strs.below {B : Nat} {w w' : World} {a : Option Addr} {ss : List ByteArray} (h : Strs B w a ss) (hb : Below B w w') : Strs B w' a ss := by
  obtain ⟨h1, h2, h3⟩ := h
  refine ⟨h1, h2, fun hp => ?_⟩
  obtain ⟨b, off, e, hlt, hc⟩ := h3 hp
  exact ⟨b, off, e, hlt, fun j hj => (hb.cell (p := ⟨b, off + j, none⟩) hlt).trans (hc j hj)⟩

theorem Words.below {B : Nat} {w w' : World} {a : Option Addr} {zs : List Int} (h : Words B w a zs) (hb : Below B w w') : Words B w' a zs := by
  obtain ⟨h1, h2, h3⟩ := h
  refine ⟨h1, h2, fun hp => ?_⟩
  obtain ⟨b, off, e, hlt, hc⟩ := h3 hp
  exact ⟨b, off, e, hlt, fun j hj => (hb.cell (p := ⟨b, off + j, none⟩) hlt).trans (hc j hj)⟩

theorem Strs.mono {B B' : Nat} {w : World} {a : Option Addr} {ss : List ByteArray} (h : Strs B w a ss) (hB : B ≤ B') : Strs B' w a ss := by
  obtain ⟨h1, h2, h3⟩ := h
  refine ⟨h1, h2, fun hp => ?_⟩
  obtain ⟨b, off, e, hlt, hc⟩ := h3 hp
  exact ⟨b, off, e, Nat.lt_of_lt_of_le hlt hB, hc⟩

theorem Words.mono {B B' : Nat} {w : World} {a : Option Addr} {zs : List Int} (h : Words B w a zs) (hB : B ≤ B') : Words B' w a zs := by
  obtain ⟨h1, h2, h3⟩ := h
  refine ⟨h1, h2, fun hp => ?_⟩
  obtain ⟨b, off, e, hlt, hc⟩ := h3 hp
  exact ⟨b, off, e, Nat.lt_of_lt_of_le hlt hB, hc⟩

theorem Strs.size {B : Nat} {w : World} {a : Option Addr} {ss : List ByteArray} (h : Strs B w a ss) (k : Nat) : (ss.getD k ByteArray.empty).size ≤ maxLen := by
  by_cases hk : k < ss.length
  · rw [List.getD, List.getElem?_eq_getElem hk]
    exact h.1 _ (List.getElem_mem hk)
  · rw [List.getD, List.getElem?_eq_none (by omega)]
    exact Nat.zero_le _

theorem Words.wf {B : Nat} {w : World} {a : Option Addr} {zs : List Int} (h : Words B w a zs) (k : Nat) : (Lit.int .u64 (zs.getD k 0)).wf = true := by
  by_cases hk : k < zs.length
  · rw [List.getD, List.getElem?_eq_getElem hk]
    exact h.1 _ (List.getElem_mem hk)
  · rw [List.getD, List.getElem?_eq_none (by omega)]
    decide

/-! ### zzMin2 -/
theorem min2 (a b : Nat) (w : World) : Calls Try.prog 19 #[.int .i64 a, .int .i64 b] w fun e w' => e = .returned (.int .i64 (min a b : Nat)) ∧ w' = w := by
  by_cases h : (a : Int) < b
  · rw [show min a b = a from by omega]
    go_enter Try.func19, Try.ntmps19
    go_wp2
    go_ret
    exact ⟨rfl, rfl⟩
  · rw [show min a b = b from by omega]
    go_enter Try.func19, Try.ntmps19
    go_wp2
    go_ret
    exact ⟨rfl, rfl⟩

/-! ### zzAddWords: some number, not too great -/
theorem addWords (t : Int) (a : Option Addr) (n cap : Nat) (w : World) (h0 : 0 ≤ t) (h1 : t ≤ 4194304) (hn : n ≤ maxLen) :
    Calls Try.prog 34 #[.int .i64 t, .slice a n cap] w fun e w' => (∃ r : Int, 0 ≤ r ∧ r ≤ 4194304 ∧ e = .returned (.int .i64 r)) ∧ w' = w := by
  unfold maxLen at hn
  by_cases ht : 1048576 < t
  · go_enter Try.func34, Try.ntmps34
    go_wp2
    go_ret
    exact ⟨⟨_, by omega, by omega, rfl⟩, rfl⟩
  · by_cases hl : 4096 < (n : Int)
    · go_enter Try.func34, Try.ntmps34
      go_wp2
      go_ret
      exact ⟨⟨_, by omega, by omega, rfl⟩, rfl⟩
    · go_enter Try.func34, Try.ntmps34
      go_wp2
      go_ret
      exact ⟨⟨_, by omega, by omega, rfl⟩, rfl⟩

/-! ### zzAddStrings: some number, not too great -/
set_option maxHeartbeats 400000 in
theorem addStrings (t : Int) (a : Option Addr) (ss : List ByteArray) (cap : Nat) (w : World) (B : Nat) (h0 : 0 ≤ t) (h1 : t ≤ 4194304) (hs : Strs B w a ss) :
    Calls Try.prog 16 #[.int .i64 t, .slice a ss.length cap] w fun e w' => (∃ r : Int, 0 ≤ r ∧ r ≤ 4194304 ∧ e = .returned (.int .i64 r)) ∧ w' = w := by
  obtain ⟨hsz, hn, hc⟩ := hs
  unfold maxLen at hn
  by_cases ht : 1048576 < t
  · clear hc hsz
    go_enter Try.func16, Try.ntmps16
    go_wp2
    go_ret
    exact ⟨⟨_, by omega, by omega, rfl⟩, rfl⟩
  · by_cases hl : 4096 < (ss.length : Int)
    · clear hc hsz
      go_enter Try.func16, Try.ntmps16
      go_wp2
      go_ret
      exact ⟨⟨_, by omega, by omega, rfl⟩, rfl⟩
    · have hsz' : ∀ k, (ss.getD k ByteArray.empty).size ≤ maxLen := fun k => Strs.size (B := B) (w := w) (a := a) ⟨hsz, by unfold maxLen; exact hn, hc⟩ k
      clear hsz
      by_cases hz : ss.length = 0
      · have HZ : Hid (ss.length = 0) := hz
        rw [hz] at *
        clear hz hc
        go_enter Try.func16, Try.ntmps16
        go_wp2
        refine wp_loop_rounds 1 ?_
        rw [rounds_succ]
        go_wp2
        go_ret
        exact ⟨⟨_, by omega, by omega, rfl⟩, rfl⟩
      · obtain ⟨b, off, rfl, hlt, hc⟩ := hc (by omega)
        clear hz
        go_enter Try.func16, Try.ntmps16
        go_wp2
        go_loop [0, 5] (fun t i => ∃ (k : Nat) (x : Int), k ≤ ss.length ∧ i = .int .i64 k ∧ t = .int .i64 x ∧ 0 ≤ x ∧ x ≤ 4194304) (fun _ i => ss.length - (intOf i).toNat)
        case atStart => exact ⟨0, _, Nat.zero_le _, rfl, rfl, by omega, by omega⟩
        case round =>
          obtain ⟨k, x, hk, rfl, rfl, hx0, hx1⟩ := hrel
          by_cases hk' : k < ss.length
          · have hcx := hc k hk'
            have hs1 := hsz' k
            generalize ss.getD k ByteArray.empty = s at hcx hs1
            unfold maxLen at hs1
            clear hc hsz'
            by_cases hx : 1048576 < x
            · go_wp2
              go_ret
              exact ⟨⟨_, by omega, by omega, rfl⟩, rfl⟩
            · by_cases hy : 1048576 < (s.size : Int)
              · go_wp2
                go_ret
                exact ⟨⟨_, by omega, by omega, rfl⟩, rfl⟩
              · go_wp2
                go_round
                case rel => exact ⟨k + 1, _, by omega, by go_num, rfl, by omega, by omega⟩
                case measure => simp [intOf]; omega
          · go_wp2
            go_ret
            exact ⟨⟨_, by omega, by omega, rfl⟩, rfl⟩

end Go.Proofs.Qxb6614579a
