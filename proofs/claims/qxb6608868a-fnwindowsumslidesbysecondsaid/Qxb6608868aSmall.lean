/-
  Seat b6608868a: the small callees: zzBitLen (27), zzBinOf (10), binMiddle (32), zzNear (13), the size tests (7, 14).
-/
import Derived.Test.Qxb6608868aBins
import Derived.WalkKit
import Derived.WalkLawsBesides
import Derived.WalkSpells
import Derived.Below
import Derived.Outline
import Derived.LoopTactic
import Derived.Laws.Shifts
namespace Go.Proofs.Qxb6608868a
open Go.RowKit

theorem hid {p : Prop} (h : p) : Hid p := h

theorem bytes7 (a : Option Addr) (n cap : Nat) (r : Int) (w : World) (hn : n ≤ maxLen) :
    Calls Try.prog 7 #[.slice a n cap, .int .i64 r] w fun e w' => e = .returned (.bool (decide (n ≤ 1048576))) ∧ w' = w := by
  unfold maxLen at hn
  by_cases h : 1048576 < (n : Int)
  · have e : decide (n ≤ 1048576) = false := decide_eq_false (by omega)
    rw [e]
    go_enter Try.func7, Try.ntmps7
    go_wp2
    go_ret
    exact ⟨rfl, rfl⟩
  · have e : decide (n ≤ 1048576) = true := decide_eq_true (by omega)
    rw [e]
    go_enter Try.func7, Try.ntmps7
    go_wp2
    go_ret
    exact ⟨rfl, rfl⟩

set_option maxHeartbeats 400000 in
theorem bitLen (v : Nat) (hv : v < 2 ^ 64) (w : World) :
    Calls Try.prog 27 #[.int .u64 v] w fun e w' => e = .returned (.int .i64 (lenOf v)) ∧ w' = w := by
  have hv' : (v : Int) < 18446744073709551616 := by omega
  go_enter Try.func27, Try.ntmps27
  go_wp2
  go_loop [0, 3] (fun x i => ∃ k : Nat, k ≤ 64 ∧ i = .int .i64 k ∧ x = .int .u64 (v / 2 ^ k : Nat) ∧ (0 < k → 2 ^ (k - 1) ≤ v)) (fun x _ => (intOf x).toNat)
  case atStart => exact ⟨0, by omega, rfl, by simp, by omega⟩
  case round =>
    obtain ⟨k, hk, rfl, rfl, hp⟩ := hrel
    have HP := hid hp
    clear hp
    by_cases hz : v / 2 ^ k = 0
    · have HL : Hid (lenOf v = k) := lenOf_eq (by
        by_cases h : v < 2 ^ k
        · exact h
        · have := Nat.div_pos (show 2 ^ k ≤ v by omega) (Nat.two_pow_pos k)
          omega) HP.out
      rw [hz]
      clear hz
      go_wp2
      go_ret
      exact ⟨by rw [HL.out]; rfl, rfl⟩
    · have hge : 2 ^ k ≤ v := by
        by_cases h : 2 ^ k ≤ v
        · exact h
        · exact absurd (Nat.div_eq_of_lt (by omega)) hz
      have hk64 : k < 64 := by
        by_cases h : k < 64
        · exact h
        · have : k = 64 := by omega
          subst this
          omega
      have hdd : v / 2 ^ (k + 1) = v / 2 ^ k / 2 := by rw [Nat.pow_succ, Nat.div_div_eq_div_mul]
      have HD := hid hdd
      have HG := hid hge
      clear hdd hge
      have hx : v / 2 ^ k ≤ v := Nat.div_le_self _ _
      generalize v / 2 ^ k = x at hz HD hx
      have hne : ((x : Int) != 0) = true := by simpa using hz
      have hx1 : (x : Int) < 18446744073709551616 := by omega
      go_wp2
      go_round
      case rel => exact ⟨k + 1, by omega, by go_num, by rw [HD.out]; simp, fun _ => HG.out⟩
      case measure => simp [intOf]; omega

end Go.Proofs.Qxb6608868a
