/-
  Seat b6608868a: THE PLAIN LAW of the latency bins: no Go in sight.
-/
import Derived.Test.Qxb6608868aRows
namespace Go.Proofs.Qxb6608868a

/-- The number of significant bits. -/
def lenOf (v : Nat) : Nat := if v = 0 then 0 else Nat.log2 v + 1
theorem lenOf_lt (v : Nat) : v < 2 ^ lenOf v := by
  unfold lenOf
  by_cases h : v = 0
  · rw [if_pos h, h]; decide
  · rw [if_neg h]; exact Nat.lt_log2_self
theorem lenOf_le {v : Nat} (h : 0 < lenOf v) : 2 ^ (lenOf v - 1) ≤ v := by
  unfold lenOf at h ⊢
  by_cases e : v = 0
  · rw [if_pos e] at h; omega
  · rw [if_neg e]
    exact Nat.log2_self_le e
theorem lenOf_eq {v n : Nat} (h1 : v < 2 ^ n) (h2 : 0 < n → 2 ^ (n - 1) ≤ v) : lenOf v = n := by
  have a1 := lenOf_lt v
  have a2 := @lenOf_le v
  rcases Nat.lt_trichotomy (lenOf v) n with h | h | h
  · have : 2 ^ lenOf v ≤ 2 ^ (n - 1) := Nat.pow_le_pow_right (by decide) (by omega)
    have := h2 (by omega)
    omega
  · exact h
  · have : 2 ^ n ≤ 2 ^ (lenOf v - 1) := Nat.pow_le_pow_right (by decide) (by omega)
    have := a2 (by omega)
    omega
theorem lenOf_mono {v u : Nat} (h : v ≤ u) : lenOf v ≤ lenOf u := by
  by_cases hl : lenOf v ≤ lenOf u
  · exact hl
  · have : 2 ^ lenOf u ≤ 2 ^ (lenOf v - 1) := Nat.pow_le_pow_right (by decide) (by omega)
    have := lenOf_le (v := v) (by omega)
    have := lenOf_lt u
    omega
theorem lenOf_63 {v : Nat} (h : v < 2 ^ 63) : lenOf v ≤ 63 := by
  by_cases hl : lenOf v ≤ 63
  · exact hl
  · have : 2 ^ 63 ≤ 2 ^ (lenOf v - 1) := Nat.pow_le_pow_right (by decide) (by omega)
    have := lenOf_le (v := v) (by omega)
    omega

/-- The bin of a latency. -/
def binOf (v : Nat) : Nat := if lenOf v ≤ 7 then v else (lenOf v - 7) * 64 + v / 2 ^ (lenOf v - 7)

theorem quot_range {v : Nat} (h : 7 < lenOf v) : 64 ≤ v / 2 ^ (lenOf v - 7) ∧ v / 2 ^ (lenOf v - 7) < 128 := by
  have a1 := lenOf_lt v
  have a2 := lenOf_le (v := v) (by omega)
  have hp : 0 < 2 ^ (lenOf v - 7) := Nat.two_pow_pos _
  constructor
  · rw [Nat.le_div_iff_mul_le hp]
    have : 2 ^ (lenOf v - 1) = 64 * 2 ^ (lenOf v - 7) := by
      rw [show lenOf v - 1 = 6 + (lenOf v - 7) by omega, Nat.pow_add]
    omega
  · rw [Nat.div_lt_iff_lt_mul hp]
    have : 2 ^ lenOf v = 128 * 2 ^ (lenOf v - 7) := by
      rw [show lenOf v = 7 + (lenOf v - 7) by omega, Nat.pow_add]
      rw [show 7 + (lenOf v - 7) - 7 = lenOf v - 7 by omega]
    omega

theorem small_of_len {v : Nat} (h : lenOf v ≤ 7) : v < 128 := by
  have := lenOf_lt v
  have : 2 ^ lenOf v ≤ 2 ^ 7 := Nat.pow_le_pow_right (by decide) h
  omega

theorem binOf_lt {v : Nat} (h : v < 2 ^ 63) : binOf v < 3712 := by
  have h63 := lenOf_63 h
  unfold binOf
  by_cases hl : lenOf v ≤ 7
  · rw [if_pos hl]
    have := small_of_len hl
    omega
  · rw [if_neg hl]
    have := quot_range (v := v) (by omega)
    omega

theorem binOf_mono {v u : Nat} (h : v ≤ u) : binOf v ≤ binOf u := by
  have hm := lenOf_mono h
  unfold binOf
  by_cases hu : lenOf u ≤ 7
  · rw [if_pos hu, if_pos (by omega)]
    exact h
  · rw [if_neg hu]
    have qu := quot_range (v := u) (by omega)
    by_cases hv : lenOf v ≤ 7
    · rw [if_pos hv]
      have := small_of_len hv
      omega
    · rw [if_neg hv]
      have qv := quot_range (v := v) (by omega)
      by_cases e : lenOf v = lenOf u
      · rw [e]
        have : v / 2 ^ (lenOf u - 7) ≤ u / 2 ^ (lenOf u - 7) := Nat.div_le_div_right h
        omega
      · omega

/-- The latency that is reported for bin i. -/
def midOf (i : Nat) : Nat := (i - (i / 64 - 1) * 64) * 2 ^ (i / 64 - 1) + (2 ^ (i / 64 - 1) - 1) / 2

theorem midOf_small {v : Nat} (h : lenOf v ≤ 7) : midOf (binOf v) = v := by
  have := small_of_len h
  unfold binOf
  rw [if_pos h]
  unfold midOf
  rw [show v / 64 - 1 = 0 by omega]
  simp

theorem midOf_big {v : Nat} (h : 7 < lenOf v) : midOf (binOf v) = v / 2 ^ (lenOf v - 7) * 2 ^ (lenOf v - 7) + (2 ^ (lenOf v - 7) - 1) / 2 := by
  have q := quot_range h
  unfold binOf
  rw [if_neg (by omega)]
  unfold midOf
  have e : ((lenOf v - 7) * 64 + v / 2 ^ (lenOf v - 7)) / 64 - 1 = lenOf v - 7 := by omega
  rw [e]
  rw [show (lenOf v - 7) * 64 + v / 2 ^ (lenOf v - 7) - (lenOf v - 7) * 64 = v / 2 ^ (lenOf v - 7) by omega]

/-- The middle lies within 1/128 of the latency. -/
theorem mid_near (v : Nat) : midOf (binOf v) ≤ v + v / 128 ∧ v ≤ midOf (binOf v) + v / 128 := by
  by_cases h : lenOf v ≤ 7
  · rw [midOf_small h]; omega
  · rw [midOf_big (by omega)]
    have q := quot_range (v := v) (by omega)
    obtain ⟨s, hs⟩ : ∃ s, s = lenOf v - 7 := ⟨_, rfl⟩
    rw [← hs] at q ⊢
    have hs0 : 0 < s := by omega
    obtain ⟨t, rfl⟩ : ∃ t, s = t + 1 := ⟨s - 1, by omega⟩
    have hp : 2 ^ (t + 1) = 2 * 2 ^ t := by rw [Nat.pow_succ]; omega
    have hpt : 0 < 2 ^ t := Nat.two_pow_pos _
    rw [hp] at q ⊢
    generalize 2 ^ t = P at hpt q ⊢
    have hd := Nat.div_add_mod v (2 * P)
    have hm := Nat.mod_lt v (show 0 < 2 * P by omega)
    generalize v / (2 * P) = Q at q hd ⊢
    generalize v % (2 * P) = R at hd hm
    have h128 : P ≤ v / 128 := by
      rw [Nat.le_div_iff_mul_le (by decide)]
      have : 2 * P * 64 ≤ 2 * P * Q := Nat.mul_le_mul_left _ q.1
      omega
    have hQ : Q * (2 * P) = 2 * P * Q := Nat.mul_comm _ _
    rw [hQ]
    generalize 2 * P * Q = Z at hd ⊢
    omega

theorem mid_lt {i : Nat} (h : i < 3712) : midOf i < 2 ^ 63 := by
  unfold midOf
  have h1 : i / 64 - 1 ≤ 56 := by omega
  have h2 : i - (i / 64 - 1) * 64 < 128 := by omega
  have h3 : 2 ^ (i / 64 - 1) ≤ 2 ^ 56 := Nat.pow_le_pow_right (by decide) h1
  generalize 2 ^ (i / 64 - 1) = P at h3 ⊢
  have h4 : (i - (i / 64 - 1) * 64) * P ≤ 127 * P := Nat.mul_le_mul_right _ (by omega)
  omega

end Go.Proofs.Qxb6608868a
