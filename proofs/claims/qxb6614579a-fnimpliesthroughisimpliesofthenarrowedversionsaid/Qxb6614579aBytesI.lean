/-
  Seat b6614579a: the size tests of the Implies laws: zzImpliesBytes (10), 9: some answer, and nothing turns.
-/
import Derived.Test.Qxb6614579aBytes
import Derived.Test.Qxb6614579aFollows
namespace Go.Proofs.Qxb6614579a
open Go.RowKit Go.Maps

theorem strs_at {B : Nat} {w : World} {a : Option Addr} {ss : List ByteArray} (h : Strs B w a ss) : ∃ b off, 0 < ss.length → a = some ⟨b, off, none⟩ ∧ ∀ j, j < ss.length → w.cell? ⟨b, off + j, none⟩ = some (.string (ss.getD j ByteArray.empty)) := by
  by_cases hp : 0 < ss.length
  · obtain ⟨b, off, h1, _, h2⟩ := h.2.2 hp
    exact ⟨b, off, fun _ => ⟨h1, h2⟩⟩
  · exact ⟨0, 0, fun h' => absurd h' hp⟩

theorem impliesBytes (a0 a1 a2 a3 a4 : Option Addr) (fs ts : List ByteArray) (zs : List Int) (ks : List ByteArray) (vs : List Int) (cap0 cap1 cap2 cap3 cap4 : Nat) (nd : ByteArray) (w : World) (B : Nat) (h0 : Strs B w a0 fs) (h1 : Strs B w a1 ts) (h2 : Words B w a2 zs) (h3 : Strs B w a3 ks) (h4 : Words B w a4 vs) (hnd : nd.size ≤ maxLen) :
    Calls Try.prog 10 #[.slice a0 fs.length cap0, .slice a1 ts.length cap1, .slice a2 zs.length cap2, .slice a3 ks.length cap3, .slice a4 vs.length cap4, .string nd] w fun e w' => (∃ r : Int, 0 ≤ r ∧ r ≤ 4194304 ∧ e = .returned (.int .i64 r)) ∧ w' = w := by
  have hzl := h2.2.1
  have hvl := h4.2.1
  unfold maxLen at hnd
  go_enter Try.func10, Try.ntmps10
  go_wp2_with fail
  refine (addStrings 0 a0 fs cap0 _ B (by omega) (by omega) h0).mono ?_
  rintro e w1 ⟨⟨r, hr0, hr1, rfl⟩, rfl⟩
  go_wp2_with fail
  refine (addStrings r a1 ts cap1 _ B hr0 hr1 h1).mono ?_
  rintro e w2 ⟨⟨r2, hr20, hr21, rfl⟩, rfl⟩
  go_wp2_with fail
  refine (addWords r2 a2 zs.length cap2 _ hr20 hr21 hzl).mono ?_
  rintro e w3 ⟨⟨r3, hr30, hr31, rfl⟩, rfl⟩
  go_wp2_with fail
  refine (addStrings r3 a3 ks cap3 _ B hr30 hr31 h3).mono ?_
  rintro e w4 ⟨⟨r4, hr40, hr41, rfl⟩, rfl⟩
  go_wp2_with fail
  refine (addWords r4 a4 vs.length cap4 _ hr40 hr41 hvl).mono ?_
  rintro e w5 ⟨⟨r5, hr50, hr51, rfl⟩, rfl⟩
  by_cases g1 : 1048576 < r5
  · go_wp2
    go_ret
    exact ⟨⟨_, by omega, by omega, rfl⟩, rfl⟩
  by_cases g2 : 1048576 < (nd.size : Int)
  · go_wp2
    go_ret
    exact ⟨⟨_, by omega, by omega, rfl⟩, rfl⟩
  go_wp2
  go_ret
  exact ⟨⟨_, by omega, by omega, rfl⟩, rfl⟩

set_option maxHeartbeats 2000000 in
theorem bytes9 (a0 a1 a2 a3 a4 : Option Addr) (fs ts : List ByteArray) (zs : List Int) (ks : List ByteArray) (vs : List Int) (cap0 cap1 cap2 cap3 cap4 : Nat) (nd : ByteArray) (sq : Int) (w : World) (B : Nat) (h0 : Strs B w a0 fs) (h1 : Strs B w a1 ts) (h2 : Words B w a2 zs) (h3 : Strs B w a3 ks) (h4 : Words B w a4 vs) (hnd : nd.size ≤ maxLen) :
    Calls Try.prog 9 #[.slice a0 fs.length cap0, .slice a1 ts.length cap1, .slice a2 zs.length cap2, .slice a3 ks.length cap3, .slice a4 vs.length cap4, .string nd, .int .u64 sq] w fun e w' => SomeBool e ∧ w' = w := by
  have lh0 := h0.2.1
  have zh0 := h0.size
  obtain ⟨bh0, oh0, ch0⟩ : ∃ b off, 0 < fs.length → a0 = some ⟨b, off, none⟩ ∧ ∀ j, j < fs.length → w.cell? ⟨b, off + j, none⟩ = some (.string (fs.getD j ByteArray.empty)) := strs_at h0
  have lh1 := h1.2.1
  have zh1 := h1.size
  obtain ⟨bh1, oh1, ch1⟩ : ∃ b off, 0 < ts.length → a1 = some ⟨b, off, none⟩ ∧ ∀ j, j < ts.length → w.cell? ⟨b, off + j, none⟩ = some (.string (ts.getD j ByteArray.empty)) := strs_at h1
  have lh2 := h2.2.1
  have lh3 := h3.2.1
  have zh3 := h3.size
  obtain ⟨bh3, oh3, ch3⟩ : ∃ b off, 0 < ks.length → a3 = some ⟨b, off, none⟩ ∧ ∀ j, j < ks.length → w.cell? ⟨b, off + j, none⟩ = some (.string (ks.getD j ByteArray.empty)) := strs_at h3
  have lh4 := h4.2.1
  clear h0 h1 h2 h3 h4
  have Ch0 := hid ch0
  have Zh0 := hid zh0
  clear ch0 zh0
  have Ch1 := hid ch1
  have Zh1 := hid zh1
  clear ch1 zh1
  have Ch3 := hid ch3
  have Zh3 := hid zh3
  clear ch3 zh3
  unfold maxLen at lh0 lh1 lh2 lh3 lh4 hnd
  go_enter Try.func9, Try.ntmps9
  by_cases g0 : 1048576 < (fs.length : Int)
  · go_wp2
    go_ret
    exact ⟨SomeBool.mk _, rfl⟩
  go_wp2
  go_loop [15, 16] (fun t i => ∃ (k : Nat) (x : Int), k ≤ fs.length ∧ i = .int .i64 k ∧ t = .int .i64 x ∧ 0 ≤ x ∧ x ≤ 1048576) (fun _ i => fs.length - (intOf i).toNat)
  case atStart => exact ⟨0, _, Nat.zero_le _, rfl, rfl, by omega, by omega⟩
  case round =>
    obtain ⟨k0, x0, hk0, rfl, rfl, hx00, hx10⟩ := hrel
    by_cases hk' : k0 < fs.length
    · obtain ⟨rfl, hc2⟩ := Ch0.out (by omega)
      have hcx := hc2 k0 hk'
      have hs1 := Zh0.out k0
      generalize fs.getD k0 ByteArray.empty = s at hcx hs1
      unfold maxLen at hs1
      clear hc2
      by_cases hy : 1048576 < (s.size : Int)
      · go_wp2
        go_ret
        exact ⟨SomeBool.mk _, rfl⟩
      · by_cases hy2 : 1048576 < x0 + (s.size : Int)
        · go_wp2
          go_ret
          exact ⟨SomeBool.mk _, rfl⟩
        · go_wp2
          go_round
          case rel => exact ⟨k0 + 1, _, by omega, by go_num, rfl, by omega, by omega⟩
          case measure => simp [intOf]; omega
    · skip
      by_cases g1 : 1048576 < (ts.length : Int)
      · go_wp2
        go_ret
        exact ⟨SomeBool.mk _, rfl⟩
      by_cases k1 : 1048576 < x0 + (ts.length : Int)
      · go_wp2
        go_ret
        exact ⟨SomeBool.mk _, rfl⟩
      go_wp2
      go_loop [15, 17] (fun t i => ∃ (k : Nat) (x : Int), k ≤ ts.length ∧ i = .int .i64 k ∧ t = .int .i64 x ∧ 0 ≤ x ∧ x ≤ 1048576) (fun _ i => ts.length - (intOf i).toNat)
      case atStart => exact ⟨0, _, Nat.zero_le _, rfl, rfl, by omega, by omega⟩
      case round =>
        obtain ⟨k1, x1, hk1, rfl, rfl, hx01, hx11⟩ := hrel
        by_cases hk' : k1 < ts.length
        · obtain ⟨rfl, hc2⟩ := Ch1.out (by omega)
          have hcx := hc2 k1 hk'
          have hs1 := Zh1.out k1
          generalize ts.getD k1 ByteArray.empty = s at hcx hs1
          unfold maxLen at hs1
          clear hc2
          by_cases hy : 1048576 < (s.size : Int)
          · go_wp2
            go_ret
            exact ⟨SomeBool.mk _, rfl⟩
          · by_cases hy2 : 1048576 < x1 + (s.size : Int)
            · go_wp2
              go_ret
              exact ⟨SomeBool.mk _, rfl⟩
            · go_wp2
              go_round
              case rel => exact ⟨k1 + 1, _, by omega, by go_num, rfl, by omega, by omega⟩
              case measure => simp [intOf]; omega
        · skip
          by_cases g2 : 1048576 < (zs.length : Int)
          · go_wp2
            go_ret
            exact ⟨SomeBool.mk _, rfl⟩
          by_cases k2 : 1048576 < x1 + (zs.length : Int)
          · go_wp2
            go_ret
            exact ⟨SomeBool.mk _, rfl⟩
          by_cases g3 : 1048576 < (ks.length : Int)
          · go_wp2
            go_ret
            exact ⟨SomeBool.mk _, rfl⟩
          by_cases k3 : 1048576 < x1 + (zs.length : Int) + (ks.length : Int)
          · go_wp2
            go_ret
            exact ⟨SomeBool.mk _, rfl⟩
          go_wp2
          go_loop [15, 18] (fun t i => ∃ (k : Nat) (x : Int), k ≤ ks.length ∧ i = .int .i64 k ∧ t = .int .i64 x ∧ 0 ≤ x ∧ x ≤ 1048576) (fun _ i => ks.length - (intOf i).toNat)
          case atStart => exact ⟨0, _, Nat.zero_le _, rfl, rfl, by omega, by omega⟩
          case round =>
            obtain ⟨k3, x3, hk3, rfl, rfl, hx03, hx13⟩ := hrel
            by_cases hk' : k3 < ks.length
            · obtain ⟨rfl, hc2⟩ := Ch3.out (by omega)
              have hcx := hc2 k3 hk'
              have hs1 := Zh3.out k3
              generalize ks.getD k3 ByteArray.empty = s at hcx hs1
              unfold maxLen at hs1
              clear hc2
              by_cases hy : 1048576 < (s.size : Int)
              · go_wp2
                go_ret
                exact ⟨SomeBool.mk _, rfl⟩
              · by_cases hy2 : 1048576 < x3 + (s.size : Int)
                · go_wp2
                  go_ret
                  exact ⟨SomeBool.mk _, rfl⟩
                · go_wp2
                  go_round
                  case rel => exact ⟨k3 + 1, _, by omega, by go_num, rfl, by omega, by omega⟩
                  case measure => simp [intOf]; omega
            · skip
              by_cases g4 : 1048576 < (vs.length : Int)
              · go_wp2
                go_ret
                exact ⟨SomeBool.mk _, rfl⟩
              by_cases k4 : 1048576 < x3 + (vs.length : Int)
              · go_wp2
                go_ret
                exact ⟨SomeBool.mk _, rfl⟩
              by_cases g5 : 1048576 < (nd.size : Int)
              · go_wp2
                go_ret
                exact ⟨SomeBool.mk _, rfl⟩
              by_cases k5 : 1048576 < x3 + (vs.length : Int) + (nd.size : Int)
              · go_wp2
                go_ret
                exact ⟨SomeBool.mk _, rfl⟩
              go_wp2
              go_ret
              exact ⟨SomeBool.mk _, rfl⟩

end Go.Proofs.Qxb6614579a
