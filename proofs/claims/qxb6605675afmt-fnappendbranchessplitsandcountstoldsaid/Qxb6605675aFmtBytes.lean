/-
  Seat b6605675aF: the byte count (6): some answer, and nothing turns.
-/
import Derived.Test.Qxb6605675aFmtBase
namespace Go.Proofs.Qxb6605675aFmt
open Go.RowKit

set_option maxHeartbeats 4000000 in
set_option maxRecDepth 100000 in
theorem bytes6 (a a' : Option Addr) (ss : List ByteArray) (bs : List Br) (cap cap' : Nat) (kk : Int) (w : World) (B : Nat) (hs : Strs B w a ss) (hb : Brs B w a' bs) :
    Calls Tryf.prog 6 #[.slice a ss.length cap, .slice a' bs.length cap', .int .i64 kk] w fun e w' => SomeBool e ∧ w' = w := by
  have hn := hs.2.1
  have hm := hb.2.1
  unfold maxLen at hn hm
  have HS := hid hs
  have HB := hid hb
  clear hs hb
  by_cases hl : 1048576 < (ss.length : Int)
  · go_enter Tryf.func6, Tryf.ntmps6
    go_wp2
    go_ret
    exact ⟨SomeBool.mk _, rfl⟩
  have hld : decide (1048576 < (ss.length : Int)) = false := decide_eq_false hl
  go_enter Tryf.func6, Tryf.ntmps6
  go_wp2
  go_loop [7, 8] (fun t i => ∃ (k : Nat) (x : Int), k ≤ ss.length ∧ i = .int .i64 k ∧ t = .int .i64 x ∧ 0 ≤ x ∧ x ≤ 1048576) (fun _ i => ss.length - (intOf i).toNat)
  case atStart => exact ⟨0, _, Nat.zero_le _, rfl, rfl, by omega, by omega⟩
  case round =>
    obtain ⟨k, x, hk, rfl, rfl, hx0, hx1⟩ := hrel
    by_cases hk' : k < ss.length
    · obtain ⟨b, off, rfl, _, hc⟩ := HS.out.2.2 (by omega)
      have hcx := hc k hk'
      have hs1 := HS.out.size k
      clear hc
      generalize ss.getD k ByteArray.empty = s at hcx hs1
      unfold maxLen at hs1
      by_cases hy : 1048576 < (s.size : Int)
      · go_wp2
        go_ret
        exact ⟨SomeBool.mk _, rfl⟩
      · by_cases hz : 1048576 < x + (s.size : Int)
        · go_wp2
          go_ret
          exact ⟨SomeBool.mk _, rfl⟩
        · go_wp2
          go_round
          case rel => exact ⟨k + 1, _, by omega, by go_num, rfl, by omega, by omega⟩
          case measure => simp [intOf]; omega
    · have hkd : decide ((k : Int) < ss.length) = false := decide_eq_false (by omega)
      by_cases hl2 : 1048576 < (bs.length : Int)
      · go_wp2
        go_ret
        exact ⟨SomeBool.mk _, rfl⟩
      have hld2 : decide (1048576 < (bs.length : Int)) = false := decide_eq_false hl2
      by_cases hl3 : 1048576 < x + (bs.length : Int)
      · go_wp2
        go_ret
        exact ⟨SomeBool.mk _, rfl⟩
      have hld3 : decide (1048576 < x + (bs.length : Int)) = false := decide_eq_false hl3
      go_wp2
      go_loop [7, 9] (fun t i => ∃ (k : Nat) (x : Int), k ≤ bs.length ∧ i = .int .i64 k ∧ t = .int .i64 x ∧ 0 ≤ x ∧ x ≤ 1048576) (fun _ i => bs.length - (intOf i).toNat)
      case atStart => exact ⟨0, _, Nat.zero_le _, rfl, rfl, by omega, by omega⟩
      case round =>
        obtain ⟨k2, x2, hk2, rfl, rfl, hy0, hy1⟩ := hrel
        by_cases hk2' : k2 < bs.length
        · obtain ⟨b, off, rfl, hbB, hc⟩ := HB.out.2.2 (by omega)
          obtain ⟨c0, c1, c2, c3, c4⟩ := hc k2 hk2'
          have ok := HB.out.ok k2
          have s0 := ok.host
          have s2 := ok.path
          have s3 := ok.id
          have s4 := ok.ident
          clear hc ok
          generalize (bs.getD k2 br0).host = h0 at *
          generalize (bs.getD k2 br0).port = p0 at *
          generalize (bs.getD k2 br0).path = t0 at *
          generalize (bs.getD k2 br0).id = i0 at *
          generalize (bs.getD k2 br0).ident = d0 at *
          unfold maxLen at s0 s2 s3 s4
          by_cases q0 : 1048576 < (h0.size : Int)
          · go_wp2
            go_ret
            exact ⟨SomeBool.mk _, rfl⟩
          by_cases v0 : 1048576 < x2 + (h0.size : Int)
          · go_wp2
            go_ret
            exact ⟨SomeBool.mk _, rfl⟩
          by_cases q2 : 1048576 < (t0.size : Int)
          · go_wp2
            go_ret
            exact ⟨SomeBool.mk _, rfl⟩
          by_cases v2 : 1048576 < x2 + (h0.size : Int) + t0.size
          · go_wp2
            go_ret
            exact ⟨SomeBool.mk _, rfl⟩
          by_cases q3 : 1048576 < (i0.size : Int)
          · go_wp2
            go_ret
            exact ⟨SomeBool.mk _, rfl⟩
          by_cases v3 : 1048576 < x2 + (h0.size : Int) + t0.size + i0.size
          · go_wp2
            go_ret
            exact ⟨SomeBool.mk _, rfl⟩
          by_cases q4 : 1048576 < (d0.size : Int)
          · go_wp2
            go_ret
            exact ⟨SomeBool.mk _, rfl⟩
          by_cases v4 : 1048576 < x2 + (h0.size : Int) + t0.size + i0.size + d0.size
          · go_wp2
            go_ret
            exact ⟨SomeBool.mk _, rfl⟩
          go_wp2
          go_round
          case rel => exact ⟨k2 + 1, _, by omega, by go_num, rfl, by omega, by omega⟩
          case measure => simp [intOf]; omega
        · go_wp2
          go_ret
          exact ⟨SomeBool.mk _, rfl⟩

end Go.Proofs.Qxb6605675aFmt
