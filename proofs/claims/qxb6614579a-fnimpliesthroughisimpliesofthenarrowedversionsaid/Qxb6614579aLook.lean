/-
  Seat b6614579a: zzLookup (25), Covers (24).
-/
import Derived.Test.Qxb6614579aMaps
namespace Go.Proofs.Qxb6614579a
open Go.RowKit Go.Maps

theorem covers (s : ByteArray) (sq : Int) (B n : Nat) (f : ByteArray → Option Int) (w : World) (hv : Ver w B n f) (hi : s.size ≤ maxLen) :
    Calls Try.prog 24 #[.map (some B), .agg #[.string s, .int .u64 sq]] w fun e w' => e = .returned (.bool (decide (sq ≤ (f s).getD 0))) ∧ Below w.heap.size w w' := by
  have hl := fun o => ((hv.alloc o).look Try.underlying31 hi).1
  clear hv
  go_enter Try.func24, Try.ntmps24
  go_wp2
  go_ret
  exact ⟨rfl, (Below.refl _ _).alloc (Nat.le_refl _) _⟩

theorem ret_u64 {a b : Int} (h : a = b) : Ending.returned (.int .u64 a) = .returned (.int .u64 b) := by rw [h]

set_option maxHeartbeats 400000 in
theorem lookup (a0 a1 : Option Addr) (ss : List ByteArray) (zs : List Int) (cap0 cap1 : Nat) (key : ByteArray) (w : World) (B : Nat) (hs : Strs B w a0 ss) (hz : Words B w a1 zs) :
    Calls Try.prog 25 #[.slice a0 ss.length cap0, .slice a1 zs.length cap1, .string key] w fun e w' => e = .returned (.int .u64 ((lkTo ss zs (min ss.length zs.length) key).getD 0)) ∧ w' = w := by
  have hn1 := hs.2.1
  have hn2 := hz.2.1
  obtain ⟨n, hn⟩ : ∃ n, n = min ss.length zs.length := ⟨_, rfl⟩
  have hN : Hid (n = min ss.length zs.length) := hn
  have hsn : n ≤ ss.length := by omega
  have hzn : n ≤ zs.length := by omega
  rw [← hn]
  clear hn
  have HS : Hid (Strs B w a0 ss) := hs
  have HZ : Hid (Words B w a1 zs) := hz
  clear hs hz
  unfold maxLen at hn1 hn2
  go_enter Try.func25, Try.ntmps25
  go_wp2_with fail
  refine (min2 ss.length zs.length _).mono ?_
  rintro e w1 ⟨rfl, rfl⟩
  rw [← hN.out]
  go_wp2
  go_loop [8, 9] (fun x i => ∃ k : Nat, k ≤ n ∧ i = .int .i64 k ∧ x = .int .u64 ((lkTo ss zs k key).getD 0)) (fun _ i => n - (intOf i).toNat)
  case atStart => exact ⟨0, Nat.zero_le _, rfl, rfl⟩
  case round =>
    obtain ⟨k, hk, rfl, rfl⟩ := hrel
    by_cases hlt : k < n
    · obtain ⟨b0, off0, rfl, hb0, hc0⟩ := HS.out.2.2 (by omega)
      obtain ⟨b1, off1, rfl, hb1, hc1⟩ := HZ.out.2.2 (by omega)
      have hc0 := hc0 k (by omega)
      have hc1 := hc1 k (by omega)
      have HL : Hid (lkTo ss zs (k + 1) key = if key = ss.getD k ByteArray.empty then some (zs.getD k 0) else lkTo ss zs k key) := rfl
      clear HS HZ
      generalize ss.getD k ByteArray.empty = s at hc0 HL
      generalize zs.getD k 0 = z at hc1 HL
      generalize lkTo ss zs k key = y at HL
      by_cases heq : s = key
      · subst heq
        go_wp2
        go_round
        case rel => exact ⟨k + 1, by omega, by go_num, by rw [HL.out, if_pos rfl]; rfl⟩
        case measure => simp [intOf]; omega
      · have hne := str_ne heq
        have HQ : Hid (¬ s = key) := heq
        clear heq
        go_wp2
        go_round
        case rel => exact ⟨k + 1, by omega, by go_num, by rw [HL.out, if_neg (fun e => HQ.out e.symm)]⟩
        case measure => simp [intOf]; omega
    · have : k = n := by omega
      subst this
      go_wp2
      go_ret
      exact ⟨rfl, rfl⟩

end Go.Proofs.Qxb6614579a
