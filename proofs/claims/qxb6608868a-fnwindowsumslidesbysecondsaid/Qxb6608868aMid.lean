/-
  Seat b6608868a: zzBinOf (10), binMiddle (32), zzNear (13), the size test (14).
-/
import Derived.Test.Qxb6608868aSmall
namespace Go.Proofs.Qxb6608868a
open Go.RowKit

def SomeBool (e : Ending) : Prop := ∃ b : Bool, e = .returned (.bool b)
theorem SomeBool.mk (b : Bool) : SomeBool (.returned (.bool b)) := ⟨b, rfl⟩

theorem ret_i64 {a b : Int} (h : a = b) : Ending.returned (.int .i64 a) = .returned (.int .i64 b) := by rw [h]

theorem bin_close {v m : Nat} (hq : v / 2 ^ (m + 8 - 7) < 128) (hm : m ≤ 55) : wrap64 (((m : Int) + 8 - 7) * 64 + wrap64 ((v : Int) / 2 ^ (m + 1))) = (((m + 8 - 7) * 64 + v / 2 ^ (m + 8 - 7) : Nat) : Int) := by
  rw [show m + 8 - 7 = m + 1 by omega] at hq ⊢
  have e : (v : Int) / 2 ^ (m + 1) = ((v / 2 ^ (m + 1) : Nat) : Int) := by simp
  rw [e]
  generalize v / 2 ^ (m + 1) = q at hq
  unfold wrap64
  omega

set_option maxHeartbeats 400000 in
set_option maxRecDepth 100000 in
theorem binOfW (v : Nat) (hv : v < 2 ^ 63) (w : World) :
    Calls Try.prog 10 #[.int .i64 v] w fun e w' => e = .returned (.int .i64 (binOf v)) ∧ w' = w := by
  have hv' : (v : Int) ≤ 9223372036854775807 := by omega
  have h63 := lenOf_63 hv
  go_enter Try.func10, Try.ntmps10
  go_wp2_with fail
  refine (bitLen v (by omega) _).mono ?_
  rintro e w1 ⟨rfl, rfl⟩
  by_cases hl : lenOf v ≤ 7
  · have HB : Hid (binOf v = v) := by show (if _ then _ else _) = _; rw [if_pos hl]
    generalize lenOf v = n at hl h63 ⊢
    clear hv
    go_wp2
    go_ret
    exact ⟨ret_i64 (by rw [HB.out]), rfl⟩
  · have q := quot_range (v := v) (by omega)
    have HB : Hid (binOf v = (lenOf v - 7) * 64 + v / 2 ^ (lenOf v - 7)) := by show (if _ then _ else _) = _; rw [if_neg hl]
    generalize lenOf v = n at hl h63 q HB ⊢
    obtain ⟨m, rfl⟩ : ∃ m, n = m + 8 := ⟨n - 8, by omega⟩
    clear hv
    go_wp2
    go_ret
    exact ⟨ret_i64 (by rw [HB.out]; exact bin_close q.2 (by omega)), rfl⟩

theorem div_cast (v m : Nat) : (v : Int) / 2 ^ m = ((v / 2 ^ m : Nat) : Int) := by simp
theorem mul_cast (v m : Nat) : (v : Int) * 2 ^ m = ((v * 2 ^ m : Nat) : Int) := by simp

theorem mid_close {i : Nat} (hi : i < 3712) (hs : 64 ≤ i) : wrap64 (IntKind.u64.wrap (IntKind.u64.wrap (((i : Int) - ((i : Int) / 64 - 1) * 64) * 2 ^ (((i : Int) / 64).toNat - 1)) + IntKind.u64.wrap ((IntKind.u64.wrap (IntKind.u64.wrap (2 ^ (((i : Int) / 64).toNat - 1)) - 1)).tdiv 2))) = (midOf i : Int) := by
  have e1 : ((i : Int) / 64).toNat - 1 = i / 64 - 1 := by omega
  have hm := mid_lt hi
  unfold midOf at hm ⊢
  rw [e1]
  have e2 : (i : Int) - ((i : Int) / 64 - 1) * 64 = ((i - (i / 64 - 1) * 64 : Nat) : Int) := by omega
  rw [e2]
  have h56 : 2 ^ (i / 64 - 1) ≤ 2 ^ 56 := Nat.pow_le_pow_right (by decide) (by omega)
  have hpos : 0 < 2 ^ (i / 64 - 1) := Nat.two_pow_pos _
  have hq : i - (i / 64 - 1) * 64 < 128 := by omega
  have e3 : ((2 : Int) ^ (i / 64 - 1)) = ((2 ^ (i / 64 - 1) : Nat) : Int) := by simp
  rw [e3]
  generalize i - (i / 64 - 1) * 64 = q at hq hm ⊢
  generalize 2 ^ (i / 64 - 1) = P at h56 hpos hm ⊢
  have e4 : ((q : Int) * (P : Int)) = ((q * P : Nat) : Int) := by simp
  rw [e4]
  have hqp : q * P ≤ 127 * P := Nat.mul_le_mul_right _ (by omega)
  generalize q * P = Z at hqp hm ⊢
  have w1 : IntKind.u64.wrap (Z : Int) = Z := by rw [IntKind.wrap_u64]; omega
  have w2 : IntKind.u64.wrap (P : Int) = P := by rw [IntKind.wrap_u64]; omega
  have w3 : IntKind.u64.wrap ((P : Int) - 1) = (P : Int) - 1 := by rw [IntKind.wrap_u64]; omega
  rw [w1, w2, w3, Int.tdiv_eq_ediv_of_nonneg (by omega)]
  have w4 : IntKind.u64.wrap (((P : Int) - 1) / 2) = ((P : Int) - 1) / 2 := by rw [IntKind.wrap_u64]; omega
  have w5 : IntKind.u64.wrap ((Z : Int) + ((P : Int) - 1) / 2) = (Z : Int) + ((P : Int) - 1) / 2 := by rw [IntKind.wrap_u64]; omega
  rw [w4, w5]
  unfold wrap64
  omega

set_option maxHeartbeats 400000 in
set_option maxRecDepth 100000 in
theorem binMiddle (i : Nat) (hi : i < 3712) (w : World) :
    Calls Try.prog 32 #[.int .i64 i] w fun e w' => e = .returned (.int .i64 (midOf i)) ∧ w' = w := by
  have hi' : (i : Int) ≤ 3711 := by omega
  by_cases hs : i < 64
  · have HM : Hid (midOf i = i) := by
      show (i - (i / 64 - 1) * 64) * 2 ^ (i / 64 - 1) + (2 ^ (i / 64 - 1) - 1) / 2 = i
      rw [show i / 64 - 1 = 0 by omega]
      simp
    have hs' : (i : Int) / 64 - 1 < 0 := by omega
    go_enter Try.func32, Try.ntmps32
    go_wp2
    go_ret
    exact ⟨ret_i64 (by rw [HM.out]), rfl⟩
  · have hs' : 0 ≤ (i : Int) / 64 - 1 := by omega
    go_enter Try.func32, Try.ntmps32
    go_wp2
    go_ret
    exact ⟨ret_i64 (mid_close hi (by omega)), rfl⟩

theorem near (got v : Nat) (hg : got < 2 ^ 63) (hv : v < 2 ^ 63) (h1 : got ≤ v + v / 128) (h2 : v ≤ got + v / 128) (w : World) :
    Calls Try.prog 13 #[.int .i64 got, .int .i64 v] w fun e w' => e = .returned (.bool true) ∧ w' = w := by
  have hg' : (got : Int) ≤ 9223372036854775807 := by omega
  have hv' : (v : Int) ≤ 9223372036854775807 := by omega
  have h1' : (got : Int) - v ≤ (v : Int) / 128 := by omega
  have h2' : (v : Int) - got ≤ (v : Int) / 128 := by omega
  clear hg hv h1 h2
  by_cases h : (v : Int) ≤ got
  · have hd : decide ((got : Int) - v ≤ (v : Int) / 128) = true := decide_eq_true h1'
    go_enter Try.func13, Try.ntmps13
    go_wp2
    go_ret
    exact ⟨rfl, rfl⟩
  · have hd : decide ((v : Int) - got ≤ (v : Int) / 128) = true := decide_eq_true h2'
    go_enter Try.func13, Try.ntmps13
    go_wp2
    go_ret
    exact ⟨rfl, rfl⟩

set_option maxHeartbeats 400000 in
theorem bytes14 (a b : Option Addr) (n m cap cap' : Nat) (r : Int) (w : World) (hn : n ≤ maxLen) (hm : m ≤ maxLen) :
    Calls Try.prog 14 #[.slice a n cap, .slice b m cap', .int .i64 r] w fun e w' => SomeBool e ∧ w' = w := by
  unfold maxLen at hn hm
  by_cases h : 1048576 < (n : Int)
  · go_enter Try.func14, Try.ntmps14
    go_wp2
    go_ret
    exact ⟨SomeBool.mk _, rfl⟩
  · by_cases h' : 1048576 < (m : Int)
    · go_enter Try.func14, Try.ntmps14
      go_wp2
      go_ret
      exact ⟨SomeBool.mk _, rfl⟩
    · by_cases h2 : 1048576 < (n : Int) + m
      · go_enter Try.func14, Try.ntmps14
        go_wp2
        go_ret
        exact ⟨SomeBool.mk _, rfl⟩
      · go_enter Try.func14, Try.ntmps14
        go_wp2
        go_ret
        exact ⟨SomeBool.mk _, rfl⟩

end Go.Proofs.Qxb6608868a
