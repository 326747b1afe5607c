/-
  Seat b6614579a: zzUnmadeBytes (22), the two size tests of the Unmade laws (21, 26): some answer, and nothing turns.
-/
import Derived.Test.Qxb6614579aBase
namespace Go.Proofs.Qxb6614579a
open Go.RowKit Go.Maps

theorem unmadeBytes (a0 a1 : Option Addr) (ss : List ByteArray) (zs : List Int) (cap0 cap1 : Nat) (inc : ByteArray) (w : World) (B : Nat) (hs : Strs B w a0 ss) (hz : Words B w a1 zs) (hi : inc.size ≤ maxLen) :
    Calls Try.prog 22 #[.slice a0 ss.length cap0, .slice a1 zs.length cap1, .string inc] w fun e w' => (∃ r : Int, e = .returned (.int .i64 r)) ∧ w' = w := by
  have hzl := hz.2.1
  unfold maxLen at hi
  go_enter Try.func22, Try.ntmps22
  go_wp2_with fail
  refine (addStrings 0 a0 ss cap0 _ B (by omega) (by omega) hs).mono ?_
  rintro e w1 ⟨⟨r, hr0, hr1, rfl⟩, rfl⟩
  go_wp2_with fail
  refine (addWords r a1 zs.length cap1 _ hr0 hr1 hzl).mono ?_
  rintro e w2 ⟨⟨r2, hr20, hr21, rfl⟩, rfl⟩
  go_wp2
  all_goals
    go_ret
    exact ⟨⟨_, rfl⟩, rfl⟩

def SomeBool (e : Ending) : Prop := ∃ b : Bool, e = .returned (.bool b)
theorem SomeBool.mk (b : Bool) : SomeBool (.returned (.bool b)) := ⟨b, rfl⟩

set_option maxHeartbeats 400000 in
theorem bytes26 (a0 a1 : Option Addr) (ss : List ByteArray) (zs : List Int) (cap0 cap1 : Nat) (inc : ByteArray) (sy ma : Int) (w : World) (B : Nat) (hs : Strs B w a0 ss) (hz : Words B w a1 zs) (hi : inc.size ≤ maxLen) :
    Calls Try.prog 26 #[.slice a0 ss.length cap0, .slice a1 zs.length cap1, .string inc, .int .u64 sy, .int .u64 ma] w fun e w' => SomeBool e ∧ w' = w := by
  have hzl := hz.2.1
  have hsz' := hs.size
  obtain ⟨hsz, hn, hc⟩ := hs
  unfold maxLen at hi hzl hn
  clear hsz hz
  by_cases hl : 1048576 < (ss.length : Int)
  · clear hc hsz'
    go_enter Try.func26, Try.ntmps26
    go_wp2
    go_ret
    exact ⟨SomeBool.mk _, rfl⟩
  · obtain ⟨b, off, hc⟩ : ∃ b off, 0 < ss.length → a0 = some ⟨b, off, none⟩ ∧ ∀ j, j < ss.length → w.cell? ⟨b, off + j, none⟩ = some (.string (ss.getD j ByteArray.empty)) := by
      by_cases h : 0 < ss.length
      · obtain ⟨b, off, h1, _, h2⟩ := hc h
        exact ⟨b, off, fun _ => ⟨h1, h2⟩⟩
      · exact ⟨0, 0, fun h' => absurd h' h⟩
    go_enter Try.func26, Try.ntmps26
    go_wp2
    go_loop [11, 12] (fun t i => ∃ (k : Nat) (x : Int), k ≤ ss.length ∧ i = .int .i64 k ∧ t = .int .i64 x ∧ 0 ≤ x ∧ x ≤ 1048576) (fun _ i => ss.length - (intOf i).toNat)
    case atStart => exact ⟨0, _, Nat.zero_le _, rfl, rfl, by omega, by omega⟩
    case round =>
      obtain ⟨k, x, hk, rfl, rfl, hx0, hx1⟩ := hrel
      by_cases hk' : k < ss.length
      · obtain ⟨rfl, hc2⟩ := hc (by omega)
        have hcx := hc2 k hk'
        have hs1 := hsz' k
        generalize ss.getD k ByteArray.empty = s at hcx hs1
        unfold maxLen at hs1
        clear hc hc2 hsz'
        by_cases hy : 1048576 < (s.size : Int)
        · go_wp2
          go_ret
          exact ⟨SomeBool.mk _, rfl⟩
        · go_wp2
          · go_ret
            exact ⟨SomeBool.mk _, rfl⟩
          · go_round
            case rel => exact ⟨k + 1, _, by omega, by go_num, rfl, by omega, by omega⟩
            case measure => simp [intOf]; omega
      · clear hc hsz'
        go_wp2
        all_goals
          go_ret
          exact ⟨SomeBool.mk _, rfl⟩

set_option maxHeartbeats 400000 in
theorem bytes21 (a0 a1 : Option Addr) (ss : List ByteArray) (zs : List Int) (cap0 cap1 : Nat) (inc : ByteArray) (sy ma : Int) (w : World) (B : Nat) (hs : Strs B w a0 ss) (hz : Words B w a1 zs) (hi : inc.size ≤ maxLen) :
    Calls Try.prog 21 #[.slice a0 ss.length cap0, .slice a1 zs.length cap1, .string inc, .int .u64 sy, .int .u64 ma] w fun e w' => SomeBool e ∧ w' = w := by
  have hzl := hz.2.1
  have hsz' := hs.size
  obtain ⟨hsz, hn, hc⟩ := hs
  unfold maxLen at hi hzl hn
  clear hsz hz
  by_cases hl : 1048576 < (ss.length : Int)
  · clear hc hsz'
    go_enter Try.func21, Try.ntmps21
    go_wp2
    go_ret
    exact ⟨SomeBool.mk _, rfl⟩
  · obtain ⟨b, off, hc⟩ : ∃ b off, 0 < ss.length → a0 = some ⟨b, off, none⟩ ∧ ∀ j, j < ss.length → w.cell? ⟨b, off + j, none⟩ = some (.string (ss.getD j ByteArray.empty)) := by
      by_cases h : 0 < ss.length
      · obtain ⟨b, off, h1, _, h2⟩ := hc h
        exact ⟨b, off, fun _ => ⟨h1, h2⟩⟩
      · exact ⟨0, 0, fun h' => absurd h' h⟩
    go_enter Try.func21, Try.ntmps21
    go_wp2
    go_loop [11, 12] (fun t i => ∃ (k : Nat) (x : Int), k ≤ ss.length ∧ i = .int .i64 k ∧ t = .int .i64 x ∧ 0 ≤ x ∧ x ≤ 1048576) (fun _ i => ss.length - (intOf i).toNat)
    case atStart => exact ⟨0, _, Nat.zero_le _, rfl, rfl, by omega, by omega⟩
    case round =>
      obtain ⟨k, x, hk, rfl, rfl, hx0, hx1⟩ := hrel
      by_cases hk' : k < ss.length
      · obtain ⟨rfl, hc2⟩ := hc (by omega)
        have hcx := hc2 k hk'
        have hs1 := hsz' k
        generalize ss.getD k ByteArray.empty = s at hcx hs1
        unfold maxLen at hs1
        clear hc hc2 hsz'
        by_cases hy : 1048576 < (s.size : Int)
        · go_wp2
          go_ret
          exact ⟨SomeBool.mk _, rfl⟩
        · go_wp2
          · go_ret
            exact ⟨SomeBool.mk _, rfl⟩
          · go_round
            case rel => exact ⟨k + 1, _, by omega, by go_num, rfl, by omega, by omega⟩
            case measure => simp [intOf]; omega
      · clear hc hsz'
        go_wp2
        all_goals
          go_ret
          exact ⟨SomeBool.mk _, rfl⟩

end Go.Proofs.Qxb6614579a
